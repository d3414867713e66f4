/-
  Walks of 'zzGoos' (15), 'zzBytes_FnPlatformsTranspose' (16), 'zzBytes_FnPlatformsJoinOS' (12).
-/
import Derived.Test.Qxb6621630aPlBase
namespace Go.Proofs.Qxb6621630a.Pl
open Go.ChangeShapes Go.WideShapes Go.ChangeAt Go.RowKit

def macS : ByteArray := ⟨#[109, 97, 99, 111, 115]⟩
def darS : ByteArray := ⟨#[100, 97, 114, 119, 105, 110]⟩
def isMac (s : ByteArray) : Bool := s.toList == [109, 97, 99, 111, 115]
def goos (s : ByteArray) : ByteArray := if isMac s then darS else s

theorem goos_any (s : ByteArray) (w : World) :
    Calls Try.prog 15 #[.string s] w fun e w' => e = .returned (.string (goos s)) ∧ w' = w := by
  cases h : isMac s
  · have h' : (s.toList == [109, 97, 99, 111, 115]) = false := h
    have hg : goos s = s := by simp [goos, h]
    rw [hg]
    clear h hg
    go_enter Try.func15, Try.ntmps15
    go_wp2
    go_ret
    exact ⟨rfl, rfl⟩
  · have h' : (s.toList == [109, 97, 99, 111, 115]) = true := h
    have hg : goos s = darS := by simp [goos, h]
    rw [hg]
    clear h hg
    go_enter Try.func15, Try.ntmps15
    go_wp2
    go_ret
    exact ⟨rfl, rfl⟩

def SomeBool (e : Ending) : Prop := ∃ v, e = .returned (.bool v)
theorem someBool (v : Bool) : SomeBool (.returned (.bool v)) := ⟨v, rfl⟩

set_option maxHeartbeats 800000 in
theorem bytes2_any (a0 a1 : Option Addr) (n0 c0 n1 c1 B : Nat) (L0 L1 : List ByteArray) (w : World) (h0 : Strs B w a0 n0 L0) (h1 : Strs B w a1 n1 L1) :
    Calls Try.prog 16 #[.slice a0 n0 c0, .slice a1 n1 c1] w fun e w' => SomeBool e ∧ w' = w := by
  have f0 := h0.few
  have f1 := h1.few
  unfold maxLen at f0 f1
  have H0 := hide h0
  have H1 := hide h1
  clear h0 h1
  by_cases g0 : n0 ≤ 1048576
  rotate_left
  · go_enter Try.func16, Try.ntmps16
    go_wp2
    all_goals (go_ret; exact ⟨someBool _, rfl⟩)
  go_enter Try.func16, Try.ntmps16
  go_wp2
  go_loop [5, 6] (fun zv iv => ∃ (k : Nat) (z : Int), k ≤ n0 ∧ 0 ≤ z ∧ z ≤ 1048576 ∧ zv = .int .i64 z ∧ iv = .int .i64 k) (fun _ iv => n0 - (intOf iv).toNat)
  case atStart => exact ⟨0, _, Nat.zero_le _, by omega, by omega, rfl, rfl⟩
  case round =>
    obtain ⟨k, z, hk, hz0, hz1, rfl, rfl⟩ := hrel
    by_cases hlt : k < n0
    · have hk' : k < L0.length := by rw [H0.out.hlen]; exact hlt
      obtain ⟨b, off, rfl, -, hc⟩ := H0.out.cells (by omega)
      have hcell := hc k hk'
      clear hc
      generalize L0[k] = s0 at hcell
      by_cases hs : s0.size ≤ 1048576
      · by_cases hz2 : z + (s0.size : Int) ≤ 1048576
        · go_wp2
          go_round
          case rel => exact ⟨k + 1, _, by omega, by omega, by omega, rfl, by go_num⟩
          case measure => simp [intOf]; omega
        · go_wp2
          go_ret
          exact ⟨someBool _, rfl⟩
      · go_wp2
        go_ret
        exact ⟨someBool _, rfl⟩

    by_cases g1 : z + (n1 : Int) ≤ 1048576
    rotate_left
    · go_wp2
      all_goals (go_ret; exact ⟨someBool _, rfl⟩)
    go_wp2
    go_loop [5, 7] (fun zv iv => ∃ (k : Nat) (z : Int), k ≤ n1 ∧ 0 ≤ z ∧ z ≤ 1048576 ∧ zv = .int .i64 z ∧ iv = .int .i64 k) (fun _ iv => n1 - (intOf iv).toNat)
    case atStart => exact ⟨0, _, Nat.zero_le _, by omega, by omega, rfl, rfl⟩
    case round =>
      obtain ⟨k, z, hk, hz0, hz1, rfl, rfl⟩ := hrel
      by_cases hlt : k < n1
      · have hk' : k < L1.length := by rw [H1.out.hlen]; exact hlt
        obtain ⟨b, off, rfl, -, hc⟩ := H1.out.cells (by omega)
        have hcell := hc k hk'
        clear hc
        generalize L1[k] = s0 at hcell
        by_cases hs : s0.size ≤ 1048576
        · by_cases hz2 : z + (s0.size : Int) ≤ 1048576
          · go_wp2
            go_round
            case rel => exact ⟨k + 1, _, by omega, by omega, by omega, rfl, by go_num⟩
            case measure => simp [intOf]; omega
          · go_wp2
            go_ret
            exact ⟨someBool _, rfl⟩
        · go_wp2
          go_ret
          exact ⟨someBool _, rfl⟩

      go_wp2
      go_ret
      exact ⟨someBool _, rfl⟩

set_option maxHeartbeats 800000 in
theorem bytes3_any (a0 a1 a2 : Option Addr) (n0 c0 n1 c1 n2 c2 B : Nat) (L0 L1 L2 : List ByteArray) (w : World) (h0 : Strs B w a0 n0 L0) (h1 : Strs B w a1 n1 L1) (h2 : Strs B w a2 n2 L2) :
    Calls Try.prog 12 #[.slice a0 n0 c0, .slice a1 n1 c1, .slice a2 n2 c2] w fun e w' => SomeBool e ∧ w' = w := by
  have f0 := h0.few
  have f1 := h1.few
  have f2 := h2.few
  unfold maxLen at f0 f1 f2
  have H0 := hide h0
  have H1 := hide h1
  have H2 := hide h2
  clear h0 h1 h2
  by_cases g0 : n0 ≤ 1048576
  rotate_left
  · go_enter Try.func12, Try.ntmps12
    go_wp2
    all_goals (go_ret; exact ⟨someBool _, rfl⟩)
  go_enter Try.func12, Try.ntmps12
  go_wp2
  go_loop [7, 8] (fun zv iv => ∃ (k : Nat) (z : Int), k ≤ n0 ∧ 0 ≤ z ∧ z ≤ 1048576 ∧ zv = .int .i64 z ∧ iv = .int .i64 k) (fun _ iv => n0 - (intOf iv).toNat)
  case atStart => exact ⟨0, _, Nat.zero_le _, by omega, by omega, rfl, rfl⟩
  case round =>
    obtain ⟨k, z, hk, hz0, hz1, rfl, rfl⟩ := hrel
    by_cases hlt : k < n0
    · have hk' : k < L0.length := by rw [H0.out.hlen]; exact hlt
      obtain ⟨b, off, rfl, -, hc⟩ := H0.out.cells (by omega)
      have hcell := hc k hk'
      clear hc
      generalize L0[k] = s0 at hcell
      by_cases hs : s0.size ≤ 1048576
      · by_cases hz2 : z + (s0.size : Int) ≤ 1048576
        · go_wp2
          go_round
          case rel => exact ⟨k + 1, _, by omega, by omega, by omega, rfl, by go_num⟩
          case measure => simp [intOf]; omega
        · go_wp2
          go_ret
          exact ⟨someBool _, rfl⟩
      · go_wp2
        go_ret
        exact ⟨someBool _, rfl⟩

    by_cases g1 : z + (n1 : Int) ≤ 1048576
    rotate_left
    · go_wp2
      all_goals (go_ret; exact ⟨someBool _, rfl⟩)
    go_wp2
    go_loop [7, 9] (fun zv iv => ∃ (k : Nat) (z : Int), k ≤ n1 ∧ 0 ≤ z ∧ z ≤ 1048576 ∧ zv = .int .i64 z ∧ iv = .int .i64 k) (fun _ iv => n1 - (intOf iv).toNat)
    case atStart => exact ⟨0, _, Nat.zero_le _, by omega, by omega, rfl, rfl⟩
    case round =>
      obtain ⟨k, z, hk, hz0, hz1, rfl, rfl⟩ := hrel
      by_cases hlt : k < n1
      · have hk' : k < L1.length := by rw [H1.out.hlen]; exact hlt
        obtain ⟨b, off, rfl, -, hc⟩ := H1.out.cells (by omega)
        have hcell := hc k hk'
        clear hc
        generalize L1[k] = s0 at hcell
        by_cases hs : s0.size ≤ 1048576
        · by_cases hz2 : z + (s0.size : Int) ≤ 1048576
          · go_wp2
            go_round
            case rel => exact ⟨k + 1, _, by omega, by omega, by omega, rfl, by go_num⟩
            case measure => simp [intOf]; omega
          · go_wp2
            go_ret
            exact ⟨someBool _, rfl⟩
        · go_wp2
          go_ret
          exact ⟨someBool _, rfl⟩

      by_cases g2 : z + (n2 : Int) ≤ 1048576
      rotate_left
      · go_wp2
        all_goals (go_ret; exact ⟨someBool _, rfl⟩)
      go_wp2
      go_loop [7, 10] (fun zv iv => ∃ (k : Nat) (z : Int), k ≤ n2 ∧ 0 ≤ z ∧ z ≤ 1048576 ∧ zv = .int .i64 z ∧ iv = .int .i64 k) (fun _ iv => n2 - (intOf iv).toNat)
      case atStart => exact ⟨0, _, Nat.zero_le _, by omega, by omega, rfl, rfl⟩
      case round =>
        obtain ⟨k, z, hk, hz0, hz1, rfl, rfl⟩ := hrel
        by_cases hlt : k < n2
        · have hk' : k < L2.length := by rw [H2.out.hlen]; exact hlt
          obtain ⟨b, off, rfl, -, hc⟩ := H2.out.cells (by omega)
          have hcell := hc k hk'
          clear hc
          generalize L2[k] = s0 at hcell
          by_cases hs : s0.size ≤ 1048576
          · by_cases hz2 : z + (s0.size : Int) ≤ 1048576
            · go_wp2
              go_round
              case rel => exact ⟨k + 1, _, by omega, by omega, by omega, rfl, by go_num⟩
              case measure => simp [intOf]; omega
            · go_wp2
              go_ret
              exact ⟨someBool _, rfl⟩
          · go_wp2
            go_ret
            exact ⟨someBool _, rfl⟩

        go_wp2
        go_ret
        exact ⟨someBool _, rfl⟩

end Go.Proofs.Qxb6621630a.Pl
