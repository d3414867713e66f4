/-
  The walks of '(*labelRequirement).holds' (10) and '(selector).matches' (9).
-/
import Derived.Test.Qxb6623441aMtBase
namespace Go.Proofs.Qxb6623441a.Mt
open Go.ChangeShapes Go.WideShapes Go.ChangeAt Go.RowKit

/-- a requirement: its key, its operator, its values. -/
structure Req where
  key : ByteArray
  op : ByteArray
  vals : List ByteArray

def holdsB (lk : ByteArray → ByteArray × Bool) (r : Req) : Bool :=
  if (r.op.toList == [73, 110]) = true then (lk r.key).2 && hasS r.vals (lk r.key).1
  else if (r.op.toList == [78, 111, 116, 73, 110]) = true then !(lk r.key).2 || !hasS r.vals (lk r.key).1
  else if (r.op.toList == [69, 120, 105, 115, 116, 115]) = true then (lk r.key).2
  else if (r.op.toList == [68, 111, 101, 115, 78, 111, 116, 69, 120, 105, 115, 116]) = true then !(lk r.key).2
  else false
def matchB (lk : ByteArray → ByteArray × Bool) (R : List Req) : Bool := R.all (holdsB lk)

/-- the requirement r lies in the three cells from ⟨g, o⟩ on. -/
structure ReqAt (B : Nat) (w : World) (g o : Nat) (r : Req) : Prop where
  low : g < B
  c0 : w.cell? ⟨g, o, none⟩ = some (.string r.key)
  c1 : w.cell? ⟨g, o + 1, none⟩ = some (.string r.op)
  c2 : ∃ x c, w.cell? ⟨g, o + 1 + 1, none⟩ = some (.slice x r.vals.length c) ∧ Strs B w x r.vals.length r.vals
  ksize : r.key.size ≤ maxLen

set_option maxHeartbeats 1600000 in
theorem holds_any (B g o : Nat) (r : Req) (mv : Value) (lk : ByteArray → ByteArray × Bool) (w : World) (hr : ReqAt B w g o r) (hlk : Lab w mv lk) :
    Calls Try.prog 10 #[.pointer (some ⟨g, o, none⟩), mv] w fun e w' => e = .returned (.bool (holdsB lk r)) ∧ w' = w := by
  obtain ⟨-, c0, c1, ⟨x, c, c2, hS⟩, hk⟩ := hr
  have hl := hlk.look w (Below.refl _ _) r.key hk
  obtain ⟨k, op, vals⟩ := r
  simp only at c0 c1 c2 hS hl ⊢
  have HS := hide hS
  clear hk hS hlk
  obtain ⟨v, p, hvp⟩ : ∃ v p, lk k = (v, p) := ⟨_, _, rfl⟩
  rw [hvp] at hl
  simp only at hl
  obtain ⟨bh, hbh⟩ : ∃ b, hasS vals v = b := ⟨_, rfl⟩
  have HH := hide hbh
  have hfin : holdsB lk ⟨k, op, vals⟩ = (if (op.toList == [73, 110]) = true then p && bh else if (op.toList == [78, 111, 116, 73, 110]) = true then !p || !bh else if (op.toList == [69, 120, 105, 115, 116, 115]) = true then p else if (op.toList == [68, 111, 101, 115, 78, 111, 116, 69, 120, 105, 115, 116]) = true then !p else false) := by
    simp only [holdsB, hvp, hbh]
  have HFIN := hide hfin
  clear hfin hvp hbh
  have cas : ∀ b : Bool, b = true ∨ b = false := fun b => by cases b <;> simp
  rcases cas (op.toList == [73, 110]) with h1 | h1
  · have HV : Hid (holdsB lk ⟨k, op, vals⟩ = (p && bh)) := by rw [HFIN.out, h1]; rfl
    cases p
    · go_enter Try.func10, Try.ntmps10
      go_wp2
      go_ret
      exact ⟨by rw [HV.out]; rfl, rfl⟩
    · go_enter Try.func10, Try.ntmps10
      go_wp2_with fail
      refine (has_any x vals.length c _ vals v _ bh HH.out HS.out).mono ?_
      rintro e w' ⟨rfl, rfl⟩
      go_wp2
      go_ret
      exact ⟨by rw [HV.out]; cases bh <;> rfl, rfl⟩
  rcases cas (op.toList == [78, 111, 116, 73, 110]) with h2 | h2
  · have HV : Hid (holdsB lk ⟨k, op, vals⟩ = (!p || !bh)) := by rw [HFIN.out, h1, h2]; rfl
    cases p
    · go_enter Try.func10, Try.ntmps10
      go_wp2
      go_ret
      exact ⟨by rw [HV.out]; rfl, rfl⟩
    · go_enter Try.func10, Try.ntmps10
      go_wp2_with fail
      refine (has_any x vals.length c _ vals v _ bh HH.out HS.out).mono ?_
      rintro e w' ⟨rfl, rfl⟩
      go_wp2
      go_ret
      exact ⟨by rw [HV.out]; cases bh <;> rfl, rfl⟩
  rcases cas (op.toList == [69, 120, 105, 115, 116, 115]) with h3 | h3
  · have HV : Hid (holdsB lk ⟨k, op, vals⟩ = p) := by rw [HFIN.out, h1, h2, h3]; rfl
    go_enter Try.func10, Try.ntmps10
    go_wp2
    go_ret
    exact ⟨by rw [HV.out]; cases p <;> rfl, rfl⟩
  rcases cas (op.toList == [68, 111, 101, 115, 78, 111, 116, 69, 120, 105, 115, 116]) with h4 | h4
  · have HV : Hid (holdsB lk ⟨k, op, vals⟩ = !p) := by rw [HFIN.out, h1, h2, h3, h4]; rfl
    go_enter Try.func10, Try.ntmps10
    go_wp2
    go_ret
    exact ⟨by rw [HV.out]; cases p <;> rfl, rfl⟩
  · have HV : Hid (holdsB lk ⟨k, op, vals⟩ = false) := by rw [HFIN.out, h1, h2, h3, h4]; rfl
    go_enter Try.func10, Try.ntmps10
    go_wp2
    go_ret
    exact ⟨by rw [HV.out]; rfl, rfl⟩

/-- the requirements R lie where the selector leads. -/
structure Sel (B : Nat) (w : World) (a : Option Addr) (n : Nat) (R : List Req) : Prop where
  hlen : R.length = n
  cells : 0 < n → ∃ g, a = some ⟨g, 0, none⟩ ∧ ∀ j (hj : j < R.length), ReqAt B w g (j * 3) R[j]

theorem mt_miss {lk : ByteArray → ByteArray × Bool} {R : List Req} {k : Nat} (hk : k < R.length) (h : holdsB lk R[k] = false) : matchB lk R = false := by
  rw [matchB, List.all_eq_false]
  exact ⟨R[k], List.getElem_mem hk, by simp [h]⟩
theorem mt_next {lk : ByteArray → ByteArray × Bool} {R : List Req} {k : Nat} (hk : k < R.length) (h0 : matchB lk (R.take k) = true) (h : holdsB lk R[k] = true) : matchB lk (R.take (k + 1)) = true := by
  rw [List.take_succ_eq_append_getElem hk]
  simp only [matchB, List.all_append, List.all_cons, List.all_nil, Bool.and_true] at h0 ⊢
  rw [h0, h]; rfl

set_option maxHeartbeats 800000 in
theorem matches_any (B : Nat) (a : Option Addr) (n c : Nat) (R : List Req) (mv : Value) (lk : ByteArray → ByteArray × Bool) (w : World) (hS : Sel B w a n R) (hn : n ≤ 16777216) (hlk : Lab w mv lk) :
    Calls Try.prog 9 #[.slice a n c, mv] w fun e w' => e = .returned (.bool (matchB lk R)) ∧ w' = w := by
  have HS := hide hS
  have HK := hide hlk
  clear hS hlk
  go_enter Try.func9, Try.ntmps9
  go_wp2
  go_loop [8] (fun iv => ∃ k : Nat, k ≤ n ∧ iv = .int .i64 k ∧ matchB lk (R.take k) = true) (fun iv => n - (intOf iv).toNat)
  case atStart => exact ⟨0, Nat.zero_le _, rfl, rfl⟩
  case round =>
    obtain ⟨k, hk, rfl, hyes⟩ := hrel
    have HY := hide hyes
    clear hyes
    by_cases hlt : k < n
    · have hk' : k < R.length := by rw [HS.out.hlen]; exact hlt
      obtain ⟨g, rfl, hc⟩ := HS.out.cells (by omega)
      have HR := hide (hc k hk')
      clear hc
      go_wp2_with fail
      refine (holds_any _ g (k * 3) R[k] mv lk _ HR.out HK.out).mono ?_
      rintro e w' ⟨rfl, rfl⟩
      obtain ⟨bb, hbb⟩ : ∃ b, holdsB lk R[k] = b := ⟨_, rfl⟩
      rw [hbb]
      have HBB := hide hbb
      clear hbb
      cases bb
      · have HN := hide (mt_miss hk' HBB.out)
        go_wp2
        go_ret
        exact ⟨by rw [HN.out]; rfl, rfl⟩
      · have HN := hide (mt_next hk' HY.out HBB.out)
        go_wp2
        go_round
        case rel => exact ⟨k + 1, by omega, by go_num, HN.out⟩
        case measure => simp [intOf]; omega
    · have hyes := HY.out
      rw [show R.take k = R from List.take_of_length_le (by rw [HS.out.hlen]; omega)] at hyes
      have HN := hide hyes
      clear hyes HY
      go_wp2
      go_ret
      exact ⟨by rw [HN.out]; rfl, rfl⟩
end Go.Proofs.Qxb6623441a.Mt
