/-
  The views of a []byte and of a [][]byte that came in; walks of 'zzTooBig' (6), 'zzBytes_FnOffersSplitAndInsert' (5), 'zzBytes_FnOffersBlindToVBit' (9).
-/
import Derived.Test.Qxb6623415aRows
import Derived.WalkKit
import Derived.ProofKit
import Derived.Below
import Derived.WalkLawsBesides
namespace Go.Proofs.Qxb6623415a.Of
open Go.ChangeShapes Go.WideShapes Go.ChangeAt Go.RowKit

theorem hide {p : Prop} (h : p) : Hid p := h

/-- the bytes V lie where the slice leads, in a block below B. -/
structure Bys (B : Nat) (w : World) (a : Option Addr) (len : Nat) (V : List Int) : Prop where
  hlen : V.length = len
  cells : 0 < len → ∃ b off, a = some ⟨b, off, none⟩ ∧ b < B ∧ ∀ j (hj : j < V.length), w.cell? ⟨b, off + j, none⟩ = some (.int .u8 V[j])
  rng : ∀ v ∈ V, 0 ≤ v ∧ v ≤ 255
  few : len ≤ maxLen

theorem Bys.keep {B B' : Nat} {w w' : World} {a : Option Addr} {len : Nat} {V : List Int} (h : Bys B w a len V) (hb : Below B' w w') (hB : B ≤ B') : Bys B w' a len V := by
  refine ⟨h.hlen, fun h0 => ?_, h.rng, h.few⟩
  obtain ⟨b, off, e, hlt, hc⟩ := h.cells h0
  exact ⟨b, off, e, hlt, fun j hj => (hb.cell (p := ⟨b, off + j, none⟩) (Nat.lt_of_lt_of_le hlt hB)).trans (hc j hj)⟩
theorem Bys.wider {B B' : Nat} {w : World} {a : Option Addr} {len : Nat} {V : List Int} (h : Bys B w a len V) (hB : B ≤ B') : Bys B' w a len V := by
  refine ⟨h.hlen, fun h0 => ?_, h.rng, h.few⟩
  obtain ⟨b, off, e, hlt, hc⟩ := h.cells h0
  exact ⟨b, off, e, Nat.lt_of_lt_of_le hlt hB, hc⟩

/-- a slice of slices leads to cells that hold slices. -/
structure Dat (B : Nat) (w : World) (a : Option Addr) (len : Nat) : Prop where
  cells : 0 < len → ∃ b off, a = some ⟨b, off, none⟩ ∧ b < B ∧ ∀ j, j < len → ∃ x l c, w.cell? ⟨b, off + j, none⟩ = some (.slice x l c) ∧ l ≤ maxLen
  few : len ≤ maxLen

theorem Dat.keep {B B' : Nat} {w w' : World} {a : Option Addr} {len : Nat} (h : Dat B w a len) (hb : Below B' w w') (hB : B ≤ B') : Dat B w' a len := by
  refine ⟨fun h0 => ?_, h.few⟩
  obtain ⟨b, off, e, hlt, hc⟩ := h.cells h0
  refine ⟨b, off, e, hlt, fun j hj => ?_⟩
  obtain ⟨x, l, c, h1, h2⟩ := hc j hj
  exact ⟨x, l, c, (hb.cell (p := ⟨b, off + j, none⟩) (Nat.lt_of_lt_of_le hlt hB)).trans h1, h2⟩
theorem Dat.wider {B B' : Nat} {w : World} {a : Option Addr} {len : Nat} (h : Dat B w a len) (hB : B ≤ B') : Dat B' w a len := by
  refine ⟨fun h0 => ?_, h.few⟩
  obtain ⟨b, off, e, hlt, hc⟩ := h.cells h0
  exact ⟨b, off, e, Nat.lt_of_lt_of_le hlt hB, hc⟩
theorem Dat.nil (B : Nat) (w : World) : Dat B w none 0 := ⟨fun h => by omega, by unfold maxLen; omega⟩

def SomeBool (e : Ending) : Prop := ∃ v, e = .returned (.bool v)
theorem someBool (v : Bool) : SomeBool (.returned (.bool v)) := ⟨v, rfl⟩

set_option maxHeartbeats 800000 in
theorem bytesS_any (a0 a1 a2 : Option Addr) (n0 c0 n1 c1 n2 c2 B : Nat) (t cut v : Int) (w : World) (f0 : n0 ≤ maxLen) (f1 : n1 ≤ maxLen) (h2 : Dat B w a2 n2) :
    Calls Try.prog 5 #[.slice a0 n0 c0, .slice a1 n1 c1, .slice a2 n2 c2, .int .u8 t, .int .i64 cut, .int .u8 v] w fun e w' => SomeBool e ∧ w' = w := by
  have f2 := h2.few
  unfold maxLen at f0 f1 f2
  have H2 := hide h2
  clear h2
  by_cases g125 : n0 ≤ 1048576
  rotate_left
  · go_enter Try.func5, Try.ntmps5
    go_wp2
    go_ret
    exact ⟨someBool _, rfl⟩
  by_cases g153 : n1 ≤ 1048576
  rotate_left
  · go_enter Try.func5, Try.ntmps5
    go_wp2
    go_ret
    exact ⟨someBool _, rfl⟩
  by_cases g747 : n0 + n1 ≤ 1048576
  rotate_left
  · go_enter Try.func5, Try.ntmps5
    go_wp2
    go_ret
    exact ⟨someBool _, rfl⟩
  by_cases g469 : n2 ≤ 1048576
  rotate_left
  · go_enter Try.func5, Try.ntmps5
    go_wp2
    go_ret
    exact ⟨someBool _, rfl⟩
  by_cases g440 : n0 + n1 + n2 ≤ 1048576
  rotate_left
  · go_enter Try.func5, Try.ntmps5
    go_wp2
    go_ret
    exact ⟨someBool _, rfl⟩
  go_enter Try.func5, Try.ntmps5
  go_wp2
  go_loop [13, 14] (fun zv iv => ∃ (k : Nat) (z : Int), k ≤ n2 ∧ 0 ≤ z ∧ z ≤ 1048576 ∧ zv = .int .i64 z ∧ iv = .int .i64 k) (fun _ iv => n2 - (intOf iv).toNat)
  case atStart => exact ⟨0, _, Nat.zero_le _, by omega, by omega, rfl, rfl⟩
  case round =>
    obtain ⟨k, z, hk, hz0, hz1, rfl, rfl⟩ := hrel
    by_cases hlt : k < n2
    · obtain ⟨b, off, rfl, -, hc⟩ := H2.out.cells (by omega)
      obtain ⟨x, l, c, hcell, hl⟩ := hc k hlt
      unfold maxLen at hl
      clear hc
      by_cases hs : l ≤ 1048576
      · by_cases hz2 : z + (l : Int) ≤ 1048576
        · go_wp2
          go_round
          case rel => exact ⟨k + 1, _, by omega, by omega, by omega, rfl, by go_num⟩
          case measure => simp [intOf]; omega
        · go_wp2
          go_ret
          exact ⟨someBool _, rfl⟩
      · go_wp2
        go_ret
        exact ⟨someBool _, rfl⟩
    · go_wp2
      go_ret
      exact ⟨someBool _, rfl⟩

set_option maxHeartbeats 800000 in
theorem bytesV_any (a0 a1 a2 : Option Addr) (n0 c0 n1 c1 n2 c2 B : Nat) (i t : Int) (w : World) (f0 : n0 ≤ maxLen) (f1 : n1 ≤ maxLen) (h2 : Dat B w a2 n2) :
    Calls Try.prog 9 #[.slice a0 n0 c0, .slice a1 n1 c1, .slice a2 n2 c2, .int .i64 i, .int .u8 t] w fun e w' => SomeBool e ∧ w' = w := by
  have f2 := h2.few
  unfold maxLen at f0 f1 f2
  have H2 := hide h2
  clear h2
  by_cases g125 : n0 ≤ 1048576
  rotate_left
  · go_enter Try.func9, Try.ntmps9
    go_wp2
    go_ret
    exact ⟨someBool _, rfl⟩
  by_cases g153 : n1 ≤ 1048576
  rotate_left
  · go_enter Try.func9, Try.ntmps9
    go_wp2
    go_ret
    exact ⟨someBool _, rfl⟩
  by_cases g747 : n0 + n1 ≤ 1048576
  rotate_left
  · go_enter Try.func9, Try.ntmps9
    go_wp2
    go_ret
    exact ⟨someBool _, rfl⟩
  by_cases g469 : n2 ≤ 1048576
  rotate_left
  · go_enter Try.func9, Try.ntmps9
    go_wp2
    go_ret
    exact ⟨someBool _, rfl⟩
  by_cases g440 : n0 + n1 + n2 ≤ 1048576
  rotate_left
  · go_enter Try.func9, Try.ntmps9
    go_wp2
    go_ret
    exact ⟨someBool _, rfl⟩
  go_enter Try.func9, Try.ntmps9
  go_wp2
  go_loop [11, 12] (fun zv iv => ∃ (k : Nat) (z : Int), k ≤ n2 ∧ 0 ≤ z ∧ z ≤ 1048576 ∧ zv = .int .i64 z ∧ iv = .int .i64 k) (fun _ iv => n2 - (intOf iv).toNat)
  case atStart => exact ⟨0, _, Nat.zero_le _, by omega, by omega, rfl, rfl⟩
  case round =>
    obtain ⟨k, z, hk, hz0, hz1, rfl, rfl⟩ := hrel
    by_cases hlt : k < n2
    · obtain ⟨b, off, rfl, -, hc⟩ := H2.out.cells (by omega)
      obtain ⟨x, l, c, hcell, hl⟩ := hc k hlt
      unfold maxLen at hl
      clear hc
      by_cases hs : l ≤ 1048576
      · by_cases hz2 : z + (l : Int) ≤ 1048576
        · go_wp2
          go_round
          case rel => exact ⟨k + 1, _, by omega, by omega, by omega, rfl, by go_num⟩
          case measure => simp [intOf]; omega
        · go_wp2
          go_ret
          exact ⟨someBool _, rfl⟩
      · go_wp2
        go_ret
        exact ⟨someBool _, rfl⟩
    · go_wp2
      go_ret
      exact ⟨someBool _, rfl⟩

/-- 'zzTooBig': where it says no, the lengths are small. -/
def BigPost (n0 n1 n2 : Nat) (e : Ending) : Prop := e = .returned (.bool true) ∨ (e = .returned (.bool false) ∧ n0 + n1 + n2 ≤ 1048576)
set_option maxHeartbeats 800000 in
theorem big_any (a0 a1 a2 : Option Addr) (n0 c0 n1 c1 n2 c2 B : Nat) (w : World) (f0 : n0 ≤ maxLen) (f1 : n1 ≤ maxLen) (h2 : Dat B w a2 n2) :
    Calls Try.prog 6 #[.slice a0 n0 c0, .slice a1 n1 c1, .slice a2 n2 c2] w fun e w' => BigPost n0 n1 n2 e ∧ w' = w := by
  have f2 := h2.few
  unfold maxLen at f0 f1 f2
  have H2 := hide h2
  clear h2
  by_cases g0 : n0 ≤ 1048576
  rotate_left
  · go_enter Try.func6, Try.ntmps6
    go_wp2
    go_ret
    exact ⟨.inl rfl, rfl⟩
  by_cases g1 : n1 ≤ 1048576
  rotate_left
  · go_enter Try.func6, Try.ntmps6
    go_wp2
    go_ret
    exact ⟨.inl rfl, rfl⟩
  by_cases g2 : n2 ≤ 1048576
  rotate_left
  · go_enter Try.func6, Try.ntmps6
    go_wp2
    go_ret
    exact ⟨.inl rfl, rfl⟩
  by_cases g3 : n0 + n1 + 8 * n2 ≤ 1048576
  rotate_left
  · go_enter Try.func6, Try.ntmps6
    go_wp2
    go_ret
    exact ⟨.inl rfl, rfl⟩
  go_enter Try.func6, Try.ntmps6
  go_wp2
  go_loop [7, 8] (fun zv iv => ∃ (k : Nat) (z : Int), k ≤ n2 ∧ 0 ≤ z ∧ z ≤ 1048576 ∧ zv = .int .i64 z ∧ iv = .int .i64 k) (fun _ iv => n2 - (intOf iv).toNat)
  case atStart => exact ⟨0, _, Nat.zero_le _, by omega, by omega, rfl, rfl⟩
  case round =>
    obtain ⟨k, z, hk, hz0, hz1, rfl, rfl⟩ := hrel
    by_cases hlt : k < n2
    · obtain ⟨b, off, rfl, -, hc⟩ := H2.out.cells (by omega)
      obtain ⟨x, l, c, hcell, hl⟩ := hc k hlt
      unfold maxLen at hl
      clear hc
      by_cases hs : l ≤ 1048576
      · by_cases hz2 : z + (l : Int) ≤ 1048576
        · go_wp2
          go_round
          case rel => exact ⟨k + 1, _, by omega, by omega, by omega, rfl, by go_num⟩
          case measure => simp [intOf]; omega
        · go_wp2
          go_ret
          exact ⟨.inl rfl, rfl⟩
      · go_wp2
        go_ret
        exact ⟨.inl rfl, rfl⟩
    · go_wp2
      go_ret
      exact ⟨.inr ⟨rfl, by omega⟩, rfl⟩

end Go.Proofs.Qxb6623415a.Of
