/-
  The walk of '(synOption).offers' (10).
-/
import Derived.Test.Qxb6623415aOfBase
namespace Go.Proofs.Qxb6623415a.Of
open Go.ChangeShapes Go.WideShapes Go.ChangeAt Go.RowKit

/-- the byte with its v bit cleared, as the model reckons it. -/
def clr (v : Int) : Int := bits BinOp.andNot IntKind.u8 v 128
def hit (v t : Int) : Bool := clr v == t
def offersB (V : List Int) (t : Int) : Bool := V.any fun v => hit v t

theorem offersB_nil (t : Int) : offersB [] t = false := rfl
theorem offersB_snoc (V : List Int) (v t : Int) : offersB (V ++ [v]) t = (offersB V t || hit v t) := by simp [offersB]
theorem offersB_append (V U : List Int) (t : Int) : offersB (V ++ U) t = (offersB V t || offersB U t) := by simp [offersB]

/-- the suboptions' values V lie where the slice of suboptions leads. -/
structure Subs (w : World) (a : Option Addr) (n : Nat) (V : List Int) : Prop where
  hlen : V.length = n
  cells : 0 < n → ∃ g, a = some ⟨g, 0, none⟩ ∧ g < w.heap.size ∧ ∀ j (hj : j < V.length), w.cell? ⟨g, j * 2, none⟩ = some (.int .u8 V[j]) ∧ ∃ x l c, w.cell? ⟨g, j * 2 + 1, none⟩ = some (.slice x l c)

theorem off_hit {V : List Int} {t : Int} {k : Nat} (hk : k < V.length) (h : hit V[k] t = true) : offersB V t = true := by
  rw [offersB, List.any_eq_true]
  exact ⟨V[k], List.getElem_mem hk, h⟩
theorem off_miss {V : List Int} {t : Int} {k : Nat} (hk : k < V.length) (h0 : offersB (V.take k) t = false) (h : hit V[k] t = false) : offersB (V.take (k + 1)) t = false := by
  rw [List.take_succ_eq_append_getElem hk, offersB_snoc, h0, h]; rfl

set_option maxHeartbeats 800000 in
theorem offers_any (oa sa : Option Addr) (no co n cs : Nat) (V : List Int) (t : Int) (w : World) (hs : Subs w sa n V) (hn : n ≤ 16777216) :
    Calls Try.prog 10 #[.agg #[.slice oa no co, .slice sa n cs], .int .u8 t] w fun e w' => e = .returned (.bool (offersB V t)) ∧ Below w.heap.size w w' := by
  have HS := hide hs
  clear hs
  go_enter Try.func10, Try.ntmps10
  go_wp2
  go_loopw [10] (fun iv wr => ∃ k : Nat, k ≤ n ∧ iv = .int .i64 k ∧ Below w.heap.size w wr ∧ offersB (V.take k) t = false) (fun iv _ => n - (intOf iv).toNat)
  case atStart => exact ⟨0, Nat.zero_le _, rfl, (Below.refl _ _).alloc (Nat.le_refl _) _, rfl⟩
  case round =>
    obtain ⟨k, hk, rfl, hB, hno⟩ := hrel
    by_cases hlt : k < n
    · have hk' : k < V.length := by rw [HS.out.hlen]; exact hlt
      obtain ⟨g, rfl, hg, hc⟩ := HS.out.cells (by omega)
      obtain ⟨h1, x, l, c, h2⟩ := hc k hk'
      have d1 := (hB.cell (p := ⟨g, k * 2, none⟩) hg).trans h1
      have d2 := (hB.cell (p := ⟨g, k * 2 + 1, none⟩) hg).trans h2
      have HB := hide hB
      have HNO := hide hno
      clear hc h1 h2 hB hno
      obtain ⟨v, hv⟩ : ∃ v, V[k] = v := ⟨_, rfl⟩
      rw [hv] at d1
      have HV := hide hv
      clear hv
      have hh : (bits BinOp.andNot IntKind.u8 v 128 == t) = true ∨ (bits BinOp.andNot IntKind.u8 v 128 == t) = false := by cases (bits BinOp.andNot IntKind.u8 v 128 == t) <;> simp
      rcases hh with hh | hh
      · have hyes : offersB V t = true := off_hit hk' (by rw [HV.out]; exact hh)
        have HY := hide hyes
        clear hyes
        go_wp2
        go_ret
        exact ⟨by rw [HY.out]; rfl, HB.out.alloc HB.out.size _⟩
      · have hstep : offersB (V.take (k + 1)) t = false := off_miss hk' HNO.out (by rw [HV.out]; exact hh)
        have HY := hide hstep
        clear hstep
        go_wp2
        go_roundw
        case rel => exact ⟨k + 1, by omega, by go_num, HB.out.alloc HB.out.size _, HY.out⟩
        case measure => simp [intOf]; omega
    · rw [show V.take k = V from List.take_of_length_le (by rw [HS.out.hlen]; omega)] at hno
      have HNO := hide hno
      clear hno
      go_wp2
      go_ret
      exact ⟨by rw [HNO.out]; rfl, hB⟩
end Go.Proofs.Qxb6623415a.Of
