/-
  Walks of 'config.commandEnd' (17), 'config.ZZcommandEnd' (9): the first computes 'Ce.ceI'.
-/
import Derived.Test.Qxb6621630aRows
import Derived.Test.Qxb6621630aCePlain
import Derived.WalkKit
import Derived.ProofKit
import Derived.Below
namespace Go.Proofs.Qxb6621630a.Ce
open Go.ChangeShapes Go.WideShapes Go.ChangeAt Go.RowKit

theorem hide {p : Prop} (h : p) : Hid p := h

theorem ret_int {k : IntKind} {a b : Int} (h : a = b) : Ending.returned (.int k a) = .returned (.int k b) := by rw [h]

/-- 'commandEnd' from place k on, at depth d inside quote q, answers as from the start. -/
def From (s : ByteArray) (k d : Nat) (q : UInt8) : Prop := ceI s.data.toList 1 0 = (ceI (s.data.toList.drop k) d q).map (· + k)

theorem from_start (s : ByteArray) : From s 0 1 0 := by simp [From]
theorem from_end {s : ByteArray} {k d : Nat} {q : UInt8} (h : From s k d q) (hk : ¬ k < s.size) : ceI s.data.toList 1 0 = none := by
  have hL : s.data.toList.length ≤ k := by simp; omega
  rw [h, List.drop_eq_nil_of_le hL]; simp [ceI]
theorem drop_at (s : ByteArray) (k : Nat) (h : k < s.size) : s.data.toList.drop k = s[k] :: s.data.toList.drop (k + 1) := by
  rw [List.drop_eq_getElem_cons (by simpa using h)]; rfl
theorem from_next {s : ByteArray} {k d d' : Nat} {q q' : UInt8} (h : From s k d q) (hk : k < s.size)
    (e : ∀ t, ceI (s[k] :: t) d q = (ceI t d' q').map (· + 1)) : From s (k + 1) d' q' := by
  unfold From at *
  rw [h, drop_at s k hk, e, Option.map_map]
  congr 1
  funext x
  simp; omega
theorem from_hit {s : ByteArray} {k d : Nat} {q : UInt8} (h : From s k d q) (hk : k < s.size)
    (e : ∀ t, ceI (s[k] :: t) d q = some 0) : ceI s.data.toList 1 0 = some k := by
  unfold From at *
  rw [h, drop_at s k hk, e]; simp

theorem u8_ne {a : UInt8} {n : Nat} (hn : n < 256) (h : ((a.toNat : Int) == (n : Int)) = false) : a ≠ UInt8.ofNat n := by
  rintro rfl
  simp at h
  omega
theorem u8_is {a : UInt8} {n : Nat} (h : (a.toNat : Int) = (n : Int)) : a = UInt8.ofNat n := by
  have : a.toNat = n := by omega
  rw [← this]; simp

theorem way_in {c q : UInt8} {d : Nat} (h1 : ((q.toNat : Int) != 0) = true) (h2 : ((c.toNat : Int) == (q.toNat : Int)) = true) (t : List UInt8) :
    ceI (c :: t) d q = (ceI t d 0).map (· + 1) := by
  have hq : q ≠ 0 := by rintro rfl; simp at h1
  have hc : c = q := by simp at h2; exact UInt8.toNat_inj.1 (by omega)
  simp [ceI, hq, hc]
theorem way_out {c q : UInt8} {d : Nat} (h1 : ((q.toNat : Int) != 0) = true) (h2 : ((c.toNat : Int) == (q.toNat : Int)) = false) (t : List UInt8) :
    ceI (c :: t) d q = (ceI t d q).map (· + 1) := by
  have hq : q ≠ 0 := by rintro rfl; simp at h1
  have hc : c ≠ q := by rintro rfl; simp at h2
  simp [ceI, hq, hc]
theorem q_zero {q : UInt8} (h1 : ((q.toNat : Int) != 0) = false) : q = 0 := by
  simp at h1; exact UInt8.toNat_inj.1 (by simp; omega)
theorem way_quote {c q : UInt8} {d : Nat} (h1 : ((q.toNat : Int) != 0) = false) (h2 : (c.toNat : Int) = 39 ∨ (c.toNat : Int) = 34) (t : List UInt8) :
    ceI (c :: t) d q = (ceI t d c).map (· + 1) := by
  have hq := q_zero h1
  have hc : c = 39 ∨ c = 34 := by
    rcases h2 with h | h
    · exact .inl (u8_is (n := 39) h)
    · exact .inr (u8_is (n := 34) h)
  simp [ceI, hq, hc]
theorem no_quote {c : UInt8} (h2 : ((c.toNat : Int) == 39) = false ∧ ((c.toNat : Int) == 34) = false) : ¬ (c = 39 ∨ c = 34) := by
  rintro (rfl | rfl) <;> simp at h2
theorem way_open {c q : UInt8} {d : Nat} (h1 : ((q.toNat : Int) != 0) = false) (_h2 : ((c.toNat : Int) == 39) = false ∧ ((c.toNat : Int) == 34) = false)
    (h3 : ((c.toNat : Int) == 40) = true) (t : List UInt8) : ceI (c :: t) d q = (ceI t (d + 1) q).map (· + 1) := by
  have hq := q_zero h1
  have hc : c = 40 := u8_is (n := 40) (by simpa using h3)
  simp [ceI, hq, hc]
theorem way_shut {c q : UInt8} {d : Nat} (h1 : ((q.toNat : Int) != 0) = false) (_h2 : ((c.toNat : Int) == 39) = false ∧ ((c.toNat : Int) == 34) = false)
    (h3 : ((c.toNat : Int) == 41) = true) (h4 : ((d : Int) - 1 == 0) = true) (t : List UInt8) : ceI (c :: t) d q = some 0 := by
  have hq := q_zero h1
  have hc : c = 41 := u8_is (n := 41) (by simpa using h3)
  have hd : d = 1 := by simp at h4; omega
  simp [ceI, hq, hc, hd]
theorem way_less {c q : UInt8} {d : Nat} (h1 : ((q.toNat : Int) != 0) = false) (_h2 : ((c.toNat : Int) == 39) = false ∧ ((c.toNat : Int) == 34) = false)
    (h3 : ((c.toNat : Int) == 41) = true) (h4 : ((d : Int) - 1 == 0) = false) (t : List UInt8) : ceI (c :: t) d q = (ceI t (d - 1) q).map (· + 1) := by
  have hq := q_zero h1
  have hc : c = 41 := u8_is (n := 41) (by simpa using h3)
  have hd : d ≠ 1 := by simp at h4; omega
  simp [ceI, hq, hc, hd]
theorem way_else {c q : UInt8} {d : Nat} (h1 : ((q.toNat : Int) != 0) = false) (h2 : ((c.toNat : Int) == 39) = false ∧ ((c.toNat : Int) == 34) = false)
    (h3 : ((c.toNat : Int) == 40) = false) (h4 : ((c.toNat : Int) == 41) = false) (t : List UInt8) : ceI (c :: t) d q = (ceI t d q).map (· + 1) := by
  have hq := q_zero h1
  have hc := no_quote h2
  have h5 : c ≠ 40 := u8_ne (n := 40) (by decide) h3
  have h6 : c ≠ 41 := u8_ne (n := 41) (by decide) h4
  simp [ceI, hq, hc, h5, h6]

set_option maxHeartbeats 400000 in
theorem ce_any (s : ByteArray) (w : World) (hs : s.size ≤ 16777216) :
    Calls Try.prog 17 #[.string s] w fun e w' => e = .returned (.int .i64 (toI (ceI s.data.toList 1 0))) ∧ w' = w := by
  go_enter Try.func17, Try.ntmps17
  go_wp2
  go_loop [3, 4, 5] (fun dv qv iv => ∃ k d : Nat, ∃ q : UInt8, k ≤ s.size ∧ 1 ≤ d ∧ d ≤ k + 1 ∧ dv = .int .i64 d ∧ qv = .int .u8 q.toNat ∧ iv = .int .i64 k ∧ From s k d q) (fun _ _ iv => s.size - (intOf iv).toNat)
  case atStart => exact ⟨0, 1, 0, Nat.zero_le _, by omega, by omega, rfl, rfl, rfl, from_start s⟩
  case round =>
    obtain ⟨k, d, q, hk, hd1, hd2, rfl, rfl, rfl, hI⟩ := hrel
    have hdb : (d : Int) ≤ 140737488355328 := by omega
    by_cases hlt : k < s.size
    · go_wp2
      case _ =>
        go_round
        case rel => exact ⟨k + 1, d, 0, by omega, by omega, by omega, rfl, rfl, by go_num, from_next hI hlt (way_in ‹_› ‹_›)⟩
        case measure => simp [intOf]; omega
      case _ =>
        go_round
        case rel => exact ⟨k + 1, d, q, by omega, by omega, by omega, rfl, rfl, by go_num, from_next hI hlt (way_out ‹_› ‹_›)⟩
        case measure => simp [intOf]; omega
      case _ =>
        go_round
        case rel => exact ⟨k + 1, d, 39, by omega, by omega, by omega, rfl, rfl, by go_num, from_next hI hlt (by rw [show s[k] = 39 from u8_is (n := 39) ‹_›]; exact way_quote ‹_› (.inl rfl))⟩
        case measure => simp [intOf]; omega
      case _ =>
        go_round
        case rel => exact ⟨k + 1, d, s[k], by omega, by omega, by omega, rfl, rfl, by go_num, from_next hI hlt (way_quote ‹_› (by simp only [beq_iff_eq] at *; omega))⟩
        case measure => simp [intOf]; omega
      case _ =>
        go_round
        case rel => exact ⟨k + 1, d + 1, q, by omega, by omega, by omega, by go_num, rfl, by go_num, from_next hI hlt (way_open ‹_› ‹_› ‹_›)⟩
        case measure => simp [intOf]; omega
      case _ =>
        go_ret
        exact ⟨by rw [from_hit hI hlt (way_shut ‹_› ‹_› ‹_› ‹_›)]; rfl, rfl⟩
      case _ =>
        have hd9 : (((d : Int) - 1) == 0) = false := ‹_›
        have hd8 : d ≠ 1 := by simp at hd9; omega
        go_round
        case rel => exact ⟨k + 1, d - 1, q, by omega, by omega, by omega, by rw [show ((d - 1 : Nat) : Int) = (d : Int) - 1 from by omega], rfl, by go_num, from_next hI hlt (way_less ‹_› ‹_› ‹_› hd9)⟩
        case measure => simp [intOf]; omega
      case _ =>
        go_round
        case rel => exact ⟨k + 1, d, q, by omega, by omega, by omega, rfl, rfl, by go_num, from_next hI hlt (way_else ‹_› ‹_› ‹_› ‹_›)⟩
        case measure => simp [intOf]; omega
    · go_wp2
      go_ret
      exact ⟨by rw [from_end hI hlt]; rfl, rfl⟩
end Go.Proofs.Qxb6621630a.Ce
