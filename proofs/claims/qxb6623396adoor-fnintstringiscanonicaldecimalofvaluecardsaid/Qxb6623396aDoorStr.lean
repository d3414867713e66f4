/-
  The walk of '(Int).String' (4).
-/
import Derived.Test.Qxb6623396aDoorFmt
import Derived.Test.Qxb6623396aDoorNum
namespace Go.Proofs.Qxb6623396aDoor.Fm
open Go.ChangeShapes Go.WideShapes Go.ChangeAt Go.RowKit Go.Sort

/-- the text of an Int. -/
def intTxt (neg : Bool) (n : Nat) : List UInt8 := if neg then 45 :: Lib.decDigits (n + 1) else Lib.decDigits n

def StrPost (w : World) (l : List UInt8) (e : Ending) (w' : World) : Prop := e = .returned (.string ⟨l.toArray⟩) ∧ Below w.heap.size w w'

theorem str_pos (n : Nat) (hn : n < 18446744073709551616) (w : World) (htab : Tab w) :
    Calls Tryd.prog 4 #[.agg #[.bool false, .int .u64 n]] w fun e w' => StrPost w (intTxt false n) e w' := by
  have HT := hide htab
  have HN := hide hn
  clear htab hn
  go_enter Tryd.func4, Tryd.ntmps4
  go_wp2_with fail
  refine (fmt_any n HN.out _ (Lib.tabIs_alloc HT.out _)).mono ?_
  rintro e w1 ⟨rfl, hb⟩
  have HB := hide (((Below.refl w.heap.size w).alloc (Nat.le_refl _) _).trans (hb.mono (by simp)))
  clear hb
  go_wp2
  go_ret
  exact ⟨rfl, HB.out⟩

theorem str_last (n : Nat) (hn : n = 18446744073709551615) (w : World) :
    Calls Tryd.prog 4 #[.agg #[.bool true, .int .u64 n]] w fun e w' => StrPost w (intTxt true n) e w' := by
  have ht : (intTxt true n) = [45, 49, 56, 52, 52, 54, 55, 52, 52, 48, 55, 51, 55, 48, 57, 53, 53, 49, 54, 49, 54] := by
    rw [hn]; show 45 :: Lib.decDigits 18446744073709551616 = _; rw [two64]
  have HT := hide ht
  have hb : ((n : Int) == 18446744073709551615) = true := by rw [hn]; rfl
  clear ht hn
  go_enter Tryd.func4, Tryd.ntmps4
  go_wp2
  go_ret
  exact ⟨by rw [HT.out]; rfl, (Below.refl _ _).alloc (Nat.le_refl _) _⟩

theorem dash (l : List UInt8) : ByteArray.mk #[45] ++ ByteArray.mk l.toArray = ByteArray.mk (45 :: l).toArray := by
  apply ByteArray.ext
  simp

theorem str_neg (n : Nat) (hn : n < 18446744073709551615) (w : World) (htab : Tab w) :
    Calls Tryd.prog 4 #[.agg #[.bool true, .int .u64 n]] w fun e w' => StrPost w (intTxt true n) e w' := by
  have HT := hide htab
  have hb : ((n : Int) == 18446744073709551615) = false := by simp; omega
  have HN := hide hn
  have hle : (n : Int) ≤ 18446744073709551614 := by omega
  clear htab hn
  have HD := hide (dash (Lib.decDigits (n + 1)))
  have hlen : (Lib.decDigits (n + 1)).length ≤ 20 := by rw [Lib.decDigits_length]; exact nd_le _ (by have := HN.out; omega)
  go_enter Tryd.func4, Tryd.ntmps4
  go_wp2_with fail
  rw [show ((n : Int) + 1) = ((n + 1 : Nat) : Int) from by omega]
  refine (fmt_any (n + 1) (by have := HN.out; omega) _ (Lib.tabIs_alloc HT.out _)).mono ?_
  rintro e w1 ⟨rfl, hb1⟩
  have HB := hide (((Below.refl w.heap.size w).alloc (Nat.le_refl _) _).trans (hb1.mono (by simp)))
  clear hb1
  go_wp2
  go_ret
  exact ⟨congrArg (fun x => Ending.returned (.string x)) HD.out, HB.out⟩

theorem str_any (neg : Bool) (n : Nat) (hn : n < 18446744073709551616) (w : World) (htab : Tab w) :
    Calls Tryd.prog 4 #[.agg #[.bool neg, .int .u64 n]] w fun e w' => StrPost w (intTxt neg n) e w' := by
  cases neg
  · exact str_pos n hn w htab
  · by_cases h : n = 18446744073709551615
    · exact str_last n h w
    · exact str_neg n (by omega) w htab

/-- from place i on s holds just the nd digits of u. -/
structure NumAt (s : ByteArray) (i u nd : Nat) : Prop where
  size : s.size = i + nd
  pos : 1 ≤ nd
  few : nd ≤ 20
  dig : ∀ j (h : j < s.size), i ≤ j → s[j].toNat = 48 + pre u nd (j + 1 - i) % 10
  lead : 1 < nd → 1 ≤ pre u nd 1 ∧ pre u nd 1 < 10
  below : u < 10 ^ nd

theorem num_of (i u : Nat) (h : u ≤ 18446744073709551616) (l : List UInt8) (hl : l.length = i + Lib.nDigits u) (hd : ∀ k, i ≤ k → l[k]? = (Lib.decDigits u)[k - i]?) : NumAt (ByteArray.mk l.toArray) i u (Lib.nDigits u) := by
  have hsz : (ByteArray.mk l.toArray).size = i + Lib.nDigits u := by rw [← hl]; rfl
  refine ⟨hsz, Lib.nDigits_pos u, nd_le u h, fun j hj hij => ?_, fun h1 => ⟨first_big u h1, first_lt u⟩, Lib.lt_pow_nDigits u⟩
  have hj' : j < l.length := by omega
  have e1 : (ByteArray.mk l.toArray)[j] = l[j] := rfl
  have e2 := hd j hij
  rw [List.getElem?_eq_getElem hj', digits_at u (j - i) (by omega), Option.some.injEq] at e2
  rw [e1, e2, show j - i + 1 = j + 1 - i by omega]
  have h3 : pre u (Lib.nDigits u) (j + 1 - i) % 10 < 10 := Nat.mod_lt _ (by omega)
  rw [UInt8.toNat_ofNat_of_lt' (by show _ < 256; omega)]
theorem num_pos (n : Nat) (h : n < 18446744073709551616) : NumAt (ByteArray.mk (intTxt false n).toArray) 0 n (Lib.nDigits n) := by
  refine num_of 0 n (by omega) _ (by simp [intTxt, Lib.decDigits_length]) (fun k _ => by simp [intTxt])
theorem num_neg (n : Nat) (h : n < 18446744073709551616) : NumAt (ByteArray.mk (intTxt true n).toArray) 1 (n + 1) (Lib.nDigits (n + 1)) := by
  refine num_of 1 (n + 1) (by omega) _ (by simp [intTxt, Lib.decDigits_length]; omega) (fun k hk => ?_)
  obtain ⟨m, rfl⟩ : ∃ m, k = m + 1 := ⟨k - 1, by omega⟩
  simp [intTxt]
end Go.Proofs.Qxb6623396aDoor.Fm
