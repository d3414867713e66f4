/-
  The view of a slice of strings that came in; walks of 'zzAddStr' (18), 'zzAddStrs' (13), 'zzGoos' (15), 'zzBytes_FnPlatformsTranspose' (16), 'zzBytes_FnPlatformsJoinOS' (12).
-/
import Derived.Test.Qxb6621630aRows
import Derived.WalkKit
import Derived.ProofKit
import Derived.Below
import Derived.WalkLawsBesides
namespace Go.Proofs.Qxb6621630a.Pl
open Go.ChangeShapes Go.WideShapes Go.ChangeAt Go.RowKit

theorem hide {p : Prop} (h : p) : Hid p := h

/-- the strings L lie where the slice leads, in a block below B. -/
structure Strs (B : Nat) (w : World) (a : Option Addr) (len : Nat) (L : List ByteArray) : Prop where
  hlen : L.length = len
  cells : 0 < len → ∃ b off, a = some ⟨b, off, none⟩ ∧ b < B ∧ ∀ j (hj : j < L.length), w.cell? ⟨b, off + j, none⟩ = some (.string L[j])
  sizes : ∀ s ∈ L, s.size ≤ maxLen
  few : len ≤ maxLen

theorem Strs.keep {B B' : Nat} {w w' : World} {a : Option Addr} {len : Nat} {L : List ByteArray} (h : Strs B w a len L) (hb : Below B' w w') (hB : B ≤ B') : Strs B w' a len L := by
  refine ⟨h.hlen, fun h0 => ?_, h.sizes, h.few⟩
  obtain ⟨b, off, e, hlt, hc⟩ := h.cells h0
  exact ⟨b, off, e, hlt, fun j hj => (hb.cell (p := ⟨b, off + j, none⟩) (Nat.lt_of_lt_of_le hlt hB)).trans (hc j hj)⟩
theorem Strs.wider {B B' : Nat} {w : World} {a : Option Addr} {len : Nat} {L : List ByteArray} (h : Strs B w a len L) (hB : B ≤ B') : Strs B' w a len L := by
  refine ⟨h.hlen, fun h0 => ?_, h.sizes, h.few⟩
  obtain ⟨b, off, e, hlt, hc⟩ := h.cells h0
  exact ⟨b, off, e, Nat.lt_of_lt_of_le hlt hB, hc⟩

theorem addStr_any (z : Int) (s : ByteArray) (w : World) (hs : s.size ≤ maxLen) (h0 : 0 ≤ z) (h1 : z ≤ 100000000) :
    Calls Try.prog 18 #[.int .i64 z, .string s] w fun e w' => (∃ r : Int, 0 ≤ r ∧ r ≤ 2097152 ∧ e = .returned (.int .i64 r)) ∧ w' = w := by
  unfold maxLen at hs
  by_cases hz : 1048576 < z
  · go_enter Try.func18, Try.ntmps18
    go_wp2
    go_ret
    exact ⟨⟨_, by omega, by omega, rfl⟩, rfl⟩
  · by_cases hl : 1048576 < s.size
    · have hz' : decide (1048576 < z) = false := by simp; omega
      go_enter Try.func18, Try.ntmps18
      go_wp2
      go_ret
      exact ⟨⟨_, by omega, by omega, rfl⟩, rfl⟩
    · go_enter Try.func18, Try.ntmps18
      go_wp2
      go_ret
      exact ⟨⟨_, by omega, by omega, rfl⟩, rfl⟩

set_option maxHeartbeats 400000 in
theorem addStrs_any (z : Int) (a : Option Addr) (len cap B : Nat) (L : List ByteArray) (w : World) (hL : Strs B w a len L) (h0 : 0 ≤ z) (h1 : z ≤ 100000000) :
    Calls Try.prog 13 #[.int .i64 z, .slice a len cap] w fun e w' => (∃ r : Int, 0 ≤ r ∧ r ≤ 100000000 ∧ e = .returned (.int .i64 r)) ∧ w' = w := by
  have hf := hL.few
  unfold maxLen at hf
  by_cases hz : 1048576 < z
  · go_enter Try.func13, Try.ntmps13
    go_wp2
    go_ret
    exact ⟨⟨_, by omega, by omega, rfl⟩, rfl⟩
  by_cases hl : 1048576 < len
  · go_enter Try.func13, Try.ntmps13
    go_wp2
    go_ret
    exact ⟨⟨_, by omega, by omega, rfl⟩, rfl⟩
  have hsz : ∀ k (hk : k < L.length), L[k].size ≤ maxLen := fun k hk => hL.sizes _ (List.getElem_mem hk)
  have HS := hide hsz
  clear hsz
  by_cases hne : 0 < len
  · obtain ⟨b, off, rfl, -, hc⟩ := hL.cells hne
    have HC := hide hc
    have HL := hide hL.hlen
    clear hc hL
    go_enter Try.func13, Try.ntmps13
    go_wp2
    go_loop [0, 5] (fun zv iv => ∃ (k : Nat) (r : Int), k ≤ len ∧ 0 ≤ r ∧ r ≤ 100000000 ∧ zv = .int .i64 r ∧ iv = .int .i64 k) (fun _ iv => len - (intOf iv).toNat)
    case atStart => exact ⟨0, _, Nat.zero_le _, by omega, by omega, rfl, rfl⟩
    case round =>
      obtain ⟨k, r, hk, hr0, hr1, rfl, rfl⟩ := hrel
      by_cases hlt : k < len
      · have hk' : k < L.length := by rw [HL.out]; exact hlt
        have hcell := HC.out k hk'
        by_cases hr : 1048576 < r
        · go_wp2_with fail
          go_ret
          exact ⟨⟨_, by omega, by omega, rfl⟩, rfl⟩
        · go_wp2_with fail
          refine (addStr_any r L[k] _ (HS.out k hk') hr0 (by omega)).mono ?_
          rintro e w' ⟨⟨r', hr0', hr1', rfl⟩, rfl⟩
          go_wp2_with fail
          go_round
          case rel => exact ⟨k + 1, r', by omega, by omega, by omega, rfl, by go_num⟩
          case measure => simp [intOf]; omega
      · go_wp2
        go_ret
        exact ⟨⟨_, by omega, by omega, rfl⟩, rfl⟩
  · obtain rfl : len = 0 := by omega
    go_enter Try.func13, Try.ntmps13
    go_wp2
    refine wp_loop_rounds 1 ?_
    rw [rounds_succ]
    go_wp2
    go_ret
    exact ⟨⟨_, by omega, by omega, rfl⟩, rfl⟩

end Go.Proofs.Qxb6621630a.Pl
