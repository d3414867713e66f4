/-
  The walks of 'internal/strconv.FormatUint' (7) and 'strconv.FormatUint' (6) at base 10: the numeral of every uint64.
-/
import Derived.Test.Qxb6623396aDoorRows
import Derived.Test.Qxb6623396aDoorPlain
import Derived.Lib.Walk
import Derived.Lib.ItoaMem
import Derived.Lib.ItoaLen
import Derived.Lib.AppendIntMem
import Derived.WalkKit
import Derived.BigCall
import Derived.BigGuard
import Derived.ProofKit
import Derived.Below
import Derived.WalkLawsBesides
namespace Go.Proofs.Qxb6623396aDoor.Fm
open Go.ChangeShapes Go.WideShapes Go.ChangeAt Go.RowKit Go.Sort

theorem hide {p : Prop} (h : p) : Hid p := h

/-- the name of the table of powers of ten, off the given row. -/
def tabN : String := Rows.fnIntStringIsCanonicalDecimalOfValueRow.named.headD ""
/-- the table of powers of ten reads as its initialiser lays it. -/
def Tab (w : World) : Prop := Lib.TabIs Tryd.prog w tabN .u64 Lib.pow10Tab

theorem nd_any (u : Nat) (h1 : 1 ≤ u) (h2 : u < 18446744073709551616) (w : World) (htab : Tab w) :
    Calls Tryd.prog 9 #[.int .u64 u] w fun e w' => e = .returned (.int .i64 (Lib.nDigits u)) ∧ w' = w :=
  Any.internal_strconv_numDigits Tryd.laysM284 u h1 h2 w htab

theorem arr32 : Tryd.prog.arrayLen 32 = 24 := by kernel_rfl

theorem holds_zero0 (w : World) (T : TypeId) (nd : Nat) (hs : nd ≤ 24) : Holds (fun (b : UInt8) => Value.int .u8 (b.toNat : Int)) (w.alloc (.cells Lib.zeros24 T)) w.heap.size 0 (Array.replicate nd (0 : UInt8)) := fun j hj => by
  have hj' : j < nd := by simpa using hj
  refine ⟨?_, World.frozen?_alloc_new _ _ _ _⟩
  rw [World.cell?_alloc_new, Lib.zeros24_at _ (by omega), getElem!_pos _ j hj]
  simp

theorem fu_small (i : Nat) (hi : i < 100) (w : World) :
    Calls Tryd.prog 7 #[.int .u64 i, .int .i64 10] w fun e w' => e = .returned (.string ⟨(Lib.decDigits i).toArray⟩) ∧ w' = w := by
  go_enter Tryd.func7, Tryd.ntmps7
  go_wp2_with fail
  refine (Tryd.internal_strconv_small i hi _).mono ?_
  rintro e w' ⟨rfl, rfl⟩
  go_wp2
  go_ret
  exact ⟨rfl, rfl⟩

theorem below_putRow {B : Nat} {w w1 : World} (h : Below B w w1) {blk : Nat} (hb : B ≤ blk) (off : Nat) (d : Array UInt8) (k : Nat) : Below B w ((putRow (fun (b : UInt8) => Value.int .u8 (b.toNat : Int)) w1 blk off d).drewN k) := by
  have h2 : Below B w1 (putRow (fun (b : UInt8) => Value.int .u8 (b.toNat : Int)) w1 blk off d) := by
    refine ⟨rfl, rfl, rfl, by simp [putRow, mapBlock], fun j hj => ?_⟩
    simp only [putRow, mapBlock, Array.getElem?_modify]
    rw [if_neg (by omega)]
  exact below_drewN (h.trans h2) k

set_option maxHeartbeats 1600000 in
set_option maxRecDepth 100000 in
theorem fu_big (u : Nat) (hu1 : 100 ≤ u) (hu64 : u < 18446744073709551616) (w : World) (htab : Tab w) :
    Calls Tryd.prog 7 #[.int .u64 u, .int .i64 10] w fun e w' => e = .returned (.string ⟨(Lib.decDigits u).toArray⟩) ∧ Below w.heap.size w w' := by
  have hnd20 : Lib.nDigits u ≤ 20 := Lib.nDigits_le20 u hu64
  have hsl : ∀ W, (Instr.sliceAt 32 (.pointer (some ⟨w.heap.size, 0, none⟩)) none (some (.int .i64 (Lib.nDigits u : Int))) none).run Tryd.prog W = .ok (.slice (some ⟨w.heap.size, 0, none⟩) (Lib.nDigits u) 24) W := fun W => by
    rw [run_sliceAt_array_h W 32 ⟨w.heap.size, 0, none⟩ (by simp [Program.arrayLen, Program.elem, Tryd.underlying32]) .i64 (Lib.nDigits u : Int) (by omega) (by rw [arr32]; omega)]
    go_simp
  have hH0 := holds_zero0 w 32 (Lib.nDigits u) (by omega)
  have hfmt := Tryd.internal_strconv_formatBase10 w.heap.size 0 24 u (Array.replicate (Lib.nDigits u) 0) (w.alloc (.cells Lib.zeros24 32)) hH0 (by rw [Array.size_replicate]; exact Lib.lt_pow_nDigits u) hu64 (by rw [Array.size_replicate]; omega)
  rw [Array.size_replicate] at hfmt
  have HH0 := hide hH0
  have HF := hide hfmt
  have HT := hide htab
  clear hH0 hfmt htab
  go_enter Tryd.func7, Tryd.ntmps7
  go_wp2_with fail
  refine (nd_any u (by omega) hu64 _ (Lib.tabIs_alloc HT.out _)).mono ?_
  rintro e w' ⟨rfl, rfl⟩
  go_wp2_with fail
  refine HF.out.mono ?_
  rintro e w' ⟨rfl, k, v', dk, rfl, hF⟩
  have hcv : (convert 35 9 (.slice (some ⟨w.heap.size, 0, none⟩) (Lib.nDigits u) 24)).run Tryd.prog ((putRow (fun (b : UInt8) => Value.int .u8 (b.toNat : Int)) (w.alloc (.cells Lib.zeros24 32)) w.heap.size 0 dk).drewN k) = .ok (.string ⟨(Lib.decDigits u).toArray⟩) ((putRow (fun (b : UInt8) => Value.int .u8 (b.toNat : Int)) (w.alloc (.cells Lib.zeros24 32)) w.heap.size 0 dk).drewN k) := by
    have h := run_convert_bytes_back (P := Tryd.prog) ((putRow (fun (b : UInt8) => Value.int .u8 (b.toNat : Int)) (w.alloc (.cells Lib.zeros24 32)) w.heap.size 0 dk).drewN k) 35 9 5 ⟨w.heap.size, 0, none⟩ 24 (Lib.decDigits u) Tryd.underlying35 Tryd.underlying5 Tryd.underlying9 (fun j hj => by
      rw [Lib.row_is_numeral hF j hj, Lib.add_plain, World.cell?_drewN]
      exact cell?_putRow (fun (b : UInt8) => Value.int .u8 (b.toNat : Int)) _ w.heap.size 0 _ dk HH0.out (by rw [hF.size, Array.size_replicate]) j (by rw [hF.size]; rw [Lib.decDigits_length] at hj; exact hj))
    rw [Lib.decDigits_length] at h
    exact h
  have HB := hide (below_putRow ((Below.refl w.heap.size w).alloc (Nat.le_refl _) (.cells Lib.zeros24 32)) (Nat.le_refl _) 0 dk k)
  go_wp2
  go_ret
  exact ⟨rfl, HB.out⟩

theorem fu_any (u : Nat) (hu64 : u < 18446744073709551616) (w : World) (htab : Tab w) :
    Calls Tryd.prog 7 #[.int .u64 u, .int .i64 10] w fun e w' => e = .returned (.string ⟨(Lib.decDigits u).toArray⟩) ∧ Below w.heap.size w w' := by
  by_cases h : u < 100
  · exact (fu_small u h w).mono fun e w' ⟨he, hw⟩ => ⟨he, by rw [hw]; exact Below.refl _ _⟩
  · exact fu_big u (by omega) hu64 w htab

theorem fmt_any (u : Nat) (hu64 : u < 18446744073709551616) (w : World) (htab : Tab w) :
    Calls Tryd.prog 6 #[.int .u64 u, .int .i64 10] w fun e w' => e = .returned (.string ⟨(Lib.decDigits u).toArray⟩) ∧ Below w.heap.size w w' := by
  have HT := hide htab
  clear htab
  go_enter Tryd.func6, Tryd.ntmps6
  go_wp2_with fail
  refine (fu_any u hu64 _ HT.out).mono ?_
  rintro e w1 ⟨rfl, hb⟩
  go_wp2
  go_ret
  exact ⟨rfl, hb⟩
end Go.Proofs.Qxb6623396aDoor.Fm
