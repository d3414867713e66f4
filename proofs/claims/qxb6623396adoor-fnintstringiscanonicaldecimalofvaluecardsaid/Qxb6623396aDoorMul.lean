/-
  The walk of 'zzMul10Add' (5).
-/
import Derived.Test.Qxb6623396aDoorRows
import Derived.WalkKit
import Derived.ProofKit
import Derived.Below
import Derived.WalkLawsBesides
import Derived.Laws.BitsAllLaws
namespace Go.Proofs.Qxb6623396aDoor.Fm
open Go.ChangeShapes Go.WideShapes Go.ChangeAt Go.RowKit

/-- 'lo & 0xffffffff'. -/
theorem and_low (x : Nat) (h : x < 18446744073709551616) : bits BinOp.and IntKind.u64 (x : Int) 4294967295 = ((x % 4294967296 : Nat) : Int) := by
  have e : bits BinOp.and IntKind.u64 (x : Int) ((4294967295 : Nat) : Int) = ((x &&& 4294967295 : Nat) : Int) := u64_and_nat x 4294967295 h (by omega)
  rw [show ((4294967295 : Nat) : Int) = 4294967295 from rfl] at e
  rw [e, show (4294967295 : Nat) = 2 ^ 32 - 1 from rfl, Nat.and_two_pow_sub_one_eq_mod]
theorem p0_eq (lo d : Nat) (h : lo < 18446744073709551616) (h3 : d ≤ 9) :
    IntKind.u64.wrap (IntKind.u64.wrap (bits BinOp.and IntKind.u64 (lo : Int) 4294967295 * 10) + (d : Int)) = ((lo % 4294967296 * 10 + d : Nat) : Int) := by
  rw [and_low lo h, IntKind.wrap_u64, IntKind.wrap_u64]; omega
theorem p1_eq (lo p0 : Nat) (h : lo < 18446744073709551616) (h3 : p0 < 68719476736) :
    IntKind.u64.wrap ((lo : Int) / 4294967296 * 10 + (p0 : Int) / 4294967296) = ((lo / 4294967296 * 10 + p0 / 4294967296 : Nat) : Int) := by
  rw [IntKind.wrap_u64]; omega
theorem hi_eq (hi p1 : Nat) (h : hi ≤ 1000) (h3 : p1 < 68719476736) :
    IntKind.u64.wrap ((hi : Int) * 10 + (p1 : Int) / 4294967296) = ((hi * 10 + p1 / 4294967296 : Nat) : Int) := by
  rw [IntKind.wrap_u64]; omega
theorem lo_eq (p0 p1 : Nat) (h0 : p0 < 68719476736) (_h1 : p1 < 68719476736) :
    bits BinOp.or IntKind.u64 (IntKind.u64.wrap ((p1 : Int) * 4294967296)) (bits BinOp.and IntKind.u64 (p0 : Int) 4294967295) = ((p1 % 4294967296 * 4294967296 + p0 % 4294967296 : Nat) : Int) := by
  have e1 : IntKind.u64.wrap ((p1 : Int) * 4294967296) = ((p1 % 4294967296 * 4294967296 : Nat) : Int) := by rw [IntKind.wrap_u64]; omega
  rw [and_low p0 (by omega), e1, u64_or_nat _ _ (by omega) (by omega)]
  have h2 : p0 % 4294967296 < 2 ^ 32 := by omega
  have e2 := Nat.two_pow_add_eq_or_of_lt h2 (p1 % 4294967296)
  rw [show p1 % 4294967296 * 4294967296 = 2 ^ 32 * (p1 % 4294967296) by omega, e2]
theorem sum_eq {hi lo d hi' lo' : Nat} (_h2 : lo < 18446744073709551616) (h4 : lo' < 18446744073709551616) (h5 : hi' * 18446744073709551616 + lo' = (hi * 18446744073709551616 + lo) * 10 + d) :
    hi * 10 + (lo / 4294967296 * 10 + (lo % 4294967296 * 10 + d) / 4294967296) / 4294967296 = hi' ∧
    (lo / 4294967296 * 10 + (lo % 4294967296 * 10 + d) / 4294967296) % 4294967296 * 4294967296 + (lo % 4294967296 * 10 + d) % 4294967296 = lo' := by
  omega

theorem ret2 {k : IntKind} {a b a' b' : Int} (h : a = a') (h' : b = b') : Ending.returned (.tuple #[.int k a, .int k b]) = .returned (.tuple #[.int k a', .int k b']) := by rw [h, h']

set_option maxHeartbeats 800000 in
theorem mul_any (hi lo d hi' lo' : Nat) (h1 : hi ≤ 1000) (h2 : lo < 18446744073709551616) (h3 : d ≤ 9) (h4 : lo' < 18446744073709551616) (h5 : hi' * 18446744073709551616 + lo' = (hi * 18446744073709551616 + lo) * 10 + d) (w : World) :
    Calls Tryd.prog 5 #[.int .u64 hi, .int .u64 lo, .int .u64 d] w fun e w' => e = .returned (.tuple #[.int .u64 hi', .int .u64 lo']) ∧ w' = w := by
  have HS : Hid (_ ∧ _) := sum_eq h2 h4 h5
  have HP0 : Hid (_ = _) := p0_eq lo d h2 h3
  have b0 : lo % 4294967296 * 10 + d < 68719476736 := by omega
  have HP1 : Hid (_ = _) := p1_eq lo _ h2 b0
  have b1 : lo / 4294967296 * 10 + (lo % 4294967296 * 10 + d) / 4294967296 < 68719476736 := by omega
  have HHI : Hid (_ = _) := hi_eq hi _ h1 b1
  have HLO : Hid (_ = _) := lo_eq _ _ b0 b1
  clear h5 h4
  have h2' : lo ≤ 18446744073709551615 := by omega
  clear h2 b0 b1
  go_enter Tryd.func5, Tryd.ntmps5
  go_wp2
  go_ret2
  refine ⟨ret2 ?_ ?_, rfl⟩
  · rw [HP0.out, HP1.out, HHI.out, HS.out.1]
  · rw [HP0.out, HP1.out, HLO.out, HS.out.2]
end Go.Proofs.Qxb6623396aDoor.Fm
