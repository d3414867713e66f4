/-
  Plain facts on decimal numerals.
-/
import Derived.Lib.ItoaNum
import Derived.Lib.ItoaLen
namespace Go.Proofs.Qxb6623396aDoor.Fm
open Go

theorem pow_le_of_digits (u : Nat) (h1 : 1 ≤ u) : 10 ^ (Lib.nDigits u - 1) ≤ u := by
  induction u using Nat.strongRecOn with
  | _ u ih =>
    by_cases h : u < 10
    · rw [Lib.nDigits_small h]; simpa using h1
    · rw [Lib.nDigits_big h]
      have h2 := ih (u / 10) (by omega) (by omega)
      have h3 := Lib.nDigits_pos (u / 10)
      obtain ⟨k, hk⟩ : ∃ k, Lib.nDigits (u / 10) = k + 1 := ⟨Lib.nDigits (u / 10) - 1, by omega⟩
      rw [hk] at h2 ⊢
      simp only [Nat.add_sub_cancel] at h2 ⊢
      rw [Nat.pow_succ]
      omega

/-- what the first k of the nd digits of u come to. -/
def pre (u nd k : Nat) : Nat := u / 10 ^ (nd - k)
theorem pre_zero (u nd : Nat) (h : u < 10 ^ nd) : pre u nd 0 = 0 := by
  unfold pre; exact Nat.div_eq_of_lt (by simpa using h)
theorem pre_full (u nd : Nat) : pre u nd nd = u := by simp [pre]
theorem pre_succ (u nd k : Nat) (h : k < nd) : pre u nd (k + 1) = pre u nd k * 10 + pre u nd (k + 1) % 10 := by
  have e : pre u nd k = pre u nd (k + 1) / 10 := by
    unfold pre
    rw [Nat.div_div_eq_div_mul, ← Nat.pow_succ, show (nd - (k + 1)).succ = nd - k by omega]
  omega
theorem pre_le (u nd k : Nat) : pre u nd k ≤ u := Nat.div_le_self _ _

theorem digits_at (u k : Nat) (h : k < Lib.nDigits u) : (Lib.decDigits u)[k]? = some (UInt8.ofNat (48 + pre u (Lib.nDigits u) (k + 1) % 10)) := by
  rw [Lib.decDigits_eq, List.getElem?_map, List.getElem?_range h]
  simp only [Option.map_some, Lib.dg, pre]
  rw [show Lib.nDigits u - 1 - k = Lib.nDigits u - (k + 1) by omega]

theorem first_big (u : Nat) (h : 1 < Lib.nDigits u) : 1 ≤ pre u (Lib.nDigits u) 1 := by
  unfold pre
  have h1 : 1 ≤ u := by
    rcases Nat.eq_zero_or_pos u with rfl | h'
    · rw [Lib.nDigits_small (by omega)] at h; omega
    · exact h'
  have := pow_le_of_digits u h1
  exact (Nat.le_div_iff_mul_le (Nat.pos_of_ne_zero (by simp))).2 (by simpa using this)
theorem first_lt (u : Nat) : pre u (Lib.nDigits u) 1 < 10 := by
  unfold pre
  have h := Lib.lt_pow_nDigits u
  have h2 := Lib.nDigits_pos u
  apply Nat.div_lt_of_lt_mul
  rw [← Nat.pow_succ, show (Lib.nDigits u - 1).succ = Lib.nDigits u by omega]
  exact h

theorem two64 : Lib.decDigits 18446744073709551616 = [49, 56, 52, 52, 54, 55, 52, 52, 48, 55, 51, 55, 48, 57, 53, 53, 49, 54, 49, 54] := by
  simp [Lib.decDigits]
theorem two64_nd : Lib.nDigits 18446744073709551616 = 20 := by rw [← Lib.decDigits_length, two64]; rfl
theorem nd_le (u : Nat) (h : u ≤ 18446744073709551616) : Lib.nDigits u ≤ 20 := by
  by_cases e : u = 18446744073709551616
  · rw [e, two64_nd]; exact Nat.le_refl _
  · exact Lib.nDigits_le20 u (by omega)

end Go.Proofs.Qxb6623396aDoor.Fm
