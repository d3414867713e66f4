/-
  The walk of the law (3): whatever the lists, the labels and the cut, it answers true and writes nothing of the caller's.
-/
import Derived.Test.Qxb6623441aMtCut
import Derived.Deep.RegionWith
namespace Go.Proofs.Qxb6623441a.Mt
open Go.ChangeShapes Go.WideShapes Go.ChangeAt Go.RowKit

def LawPost (w : World) (e : Ending) (w' : World) : Prop := e = .returned (.bool true) ∧ Below w.heap.size w w'

set_option maxHeartbeats 3200000 in
/-- behind the guards. -/
theorem law_any (ka oa va : Option Addr) (n0 kc n1 oc n2 vc : Nat) (K O : List ByteArray) (V : List (List ByteArray)) (mv : Value) (lk : ByteArray → ByteArray × Bool) (N : Nat) (cz : Int) (w : World)
    (hK : Strs w.heap.size w ka n0 K) (hO : Strs w.heap.size w oa n1 O) (hV : VS w.heap.size w va n2 V) (hkc : n0 ≤ kc) (hoc : n1 ≤ oc) (hvc : n2 ≤ vc) (hlk : Lab w mv lk)
    (hlen : ∀ ty, (Builtin.len_ #[24] ty #[mv]).run Try.prog w = .ok (.int .i64 (N : Int)) w) :
    Calls Try.prog 3 #[.slice ka n0 kc, .slice oa n1 oc, .slice va n2 vc, mv, .int .i64 cz] w fun e w' => LawPost w e w' := by
  have HK := hide hK
  have HO := hide hO
  have HV := hide hV
  have HL := hide hlk
  have HC := hide (And.intro hkc (And.intro hoc hvc))
  clear hK hO hV hlk hkc hoc hvc
  by_cases g0 : n0 ≤ 65536
  rotate_left
  · go_enter Try.func3, Try.ntmps3
    go_wp2
    go_ret
    exact ⟨rfl, Below.refl _ _⟩
  by_cases g1 : n1 ≤ 65536
  rotate_left
  · go_enter Try.func3, Try.ntmps3
    go_wp2
    go_ret
    exact ⟨rfl, Below.refl _ _⟩
  by_cases g2 : n2 ≤ 65536
  rotate_left
  · go_enter Try.func3, Try.ntmps3
    go_wp2
    go_ret
    exact ⟨rfl, Below.refl _ _⟩
  by_cases g3 : N ≤ 65536
  rotate_left
  · go_enter Try.func3, Try.ntmps3
    go_wp2
    go_ret
    exact ⟨rfl, Below.refl _ _⟩
  go_enter Try.func3, Try.ntmps3
  go_wp2_with fail
  refine (small_any ka oa va n0 kc n1 oc n2 vc _ K O V _ HK.out HO.out HV.out).mono ?_
  rintro e w' ⟨⟨sm, rfl⟩, rfl⟩
  cases sm
  · go_wp2
    go_ret
    exact ⟨rfl, Below.refl _ _⟩
  by_cases g4 : n1 = n0
  rotate_left
  · go_wp2
    go_ret
    exact ⟨rfl, Below.refl _ _⟩
  subst g4
  by_cases g5 : n2 = n1
  rotate_left
  · go_wp2
    go_ret
    exact ⟨rfl, Below.refl _ _⟩
  subst g5
  by_cases g6 : 0 ≤ cz
  rotate_left
  · go_wp2
    go_ret
    exact ⟨rfl, Below.refl _ _⟩
  by_cases g7 : cz ≤ (n2 : Int)
  rotate_left
  · go_wp2
    go_ret
    exact ⟨rfl, Below.refl _ _⟩
  go_wp2_with fail
  obtain ⟨c, rfl⟩ : ∃ c : Nat, cz = c := ⟨cz.toNat, by omega⟩
  obtain ⟨m, hm⟩ : ∃ m, n2 = c + m := ⟨n2 - c, by omega⟩
  obtain ⟨R, HT⟩ := tri_of HK.out HO.out HV.out
  obtain ⟨h1, h2, h3⟩ := HC.out
  have HB0 := hide (Bag.start HT HL.out hm h1 h2 h3)
  have fk := run_front 22 9 Try.underlying22 size9 ka n2 kc c (by omega) h1
  have fo := run_front 22 9 Try.underlying22 size9 oa n2 oc c (by omega) h2
  have fv := run_front 23 22 Try.underlying23 size22 va n2 vc c (by omega) h3
  have bk := run_back 22 9 Try.underlying22 size9 ka n2 kc c m hm
  have bo := run_back 22 9 Try.underlying22 size9 oa n2 oc c m hm
  have bv := run_back 23 22 Try.underlying23 size22 va n2 vc c m hm
  generalize backA ka c kc = xk at HB0 bk
  generalize backA oa c oc = xo at HB0 bo
  generalize backA va c vc = xv at HB0 bv
  generalize kc - c = yk at bk
  generalize oc - c = yo at bo
  generalize vc - c = yv at bv
  obtain ⟨f, hf⟩ : ∃ f, matchB lk (R.take c) = f := ⟨_, rfl⟩
  obtain ⟨b, hb⟩ : ∃ b, matchB lk (R.drop c) = b := ⟨_, rfl⟩
  obtain ⟨wh, hwh⟩ : ∃ wh, wh = (f && b) := ⟨_, rfl⟩
  obtain ⟨ro, hro⟩ : ∃ ro, ro = (b && f) := ⟨_, rfl⟩
  obtain ⟨tw, htw⟩ : ∃ tw, tw = ((f && b) && (f && b)) := ⟨_, rfl⟩
  have mW : matchB lk R = wh := by rw [matchB_cut lk R c, hf, hb, hwh]
  have mR : matchB lk (R.drop c ++ R.take c) = ro := by rw [matchB_append, hf, hb, hro]
  have mT : matchB lk (R ++ R) = tw := by rw [matchB_append, mW, hwh, htw]
  have MF := hide hf
  have MB := hide hb
  have MW := hide mW
  have MR := hide mR
  have MT := hide mT
  have EW := hide (And.intro hwh (And.intro hro htw))
  have Hm := hide hm
  clear HT h1 h2 h3 hf hb hwh hro htw mW mR mT HK HO HV HL HC hlen g6 g7 hm
  refine (zz_tri ka oa va n2 kc oc vc R mv lk wh MW.out _ HB0.out.all (by omega) HB0.out.lab).mono ?_
  rintro e w1 ⟨rfl, hb⟩
  have HB1 := hide (HB0.out.keep hb)
  clear hb HB0
  go_wp2_with fail
  go_region_with (go_at_call 5; refine (zz_tri ka oa va c kc oc vc (R.take c) mv lk f MF.out _ HB1.out.drew.fr (by have := Hm.out; omega) HB1.out.drew.lab).mono ?_; rintro e w2 ⟨rfl, hb⟩; have HB2 := hide (HB1.out.drew.keep hb); clear hb HB1)
  go_wp2_with fail
  go_region_with (go_at_call 5; refine (zz_tri xk xo xv m yk yo yv (R.drop c) mv lk b MB.out _ HB2.out.drew.ba (by have := Hm.out; omega) HB2.out.drew.lab).mono ?_; rintro e w3 ⟨rfl, hb⟩; have HB3 := hide (HB2.out.drew.keep hb); clear hb HB2)
  go_wp2_with fail
  refine (zz_tri none none none 0 0 0 0 [] mv lk true rfl _ (Tri.nil _) (by omega) HB3.out.lab).mono ?_
  rintro e w4 ⟨rfl, hb⟩
  have HB4 := hide (HB3.out.keep hb)
  clear hb HB3
  go_wp2_with fail
  go_region_with (first
    | (go_at_call_of 6 xk; refine (join_js xk ka m yk c kc ((R.drop c).map Req.key) ((R.take c).map Req.key) _ HB4.out.drew.ba.k HB4.out.drew.fr.k (by have := Hm.out; omega) (by have := Hm.out; omega)).mono ?_; rintro e w5 ⟨zk, rfl, hs, hb⟩; have HB5 := hide (HB4.out.drew.keep hb); have HJ5 := hide hs; clear hb hs HB4)
    | (go_at_call_of 6 xo; refine (join_js xo oa m yo c oc ((R.drop c).map Req.op) ((R.take c).map Req.op) _ HB5.out.ba.o HB5.out.fr.o (by have := Hm.out; omega) (by have := Hm.out; omega)).mono ?_; rintro e w6 ⟨zo, rfl, hs, hb⟩; have HB6 := hide (HB5.out.keep hb); have HJ6 := hide (And.intro ((HJ5.out.keep hb (Nat.le_refl _)).wider hb.size) hs); clear hb hs HB5 HJ5)
    | (go_at_call 7; refine (join_jv xv va m yv c vc ((R.drop c).map Req.vals) ((R.take c).map Req.vals) _ HB6.out.ba.v HB6.out.fr.v (by have := Hm.out; omega) (by have := Hm.out; omega)).mono ?_; rintro e w7 ⟨zv, rfl, hs, hb⟩; have HB7 := hide (HB6.out.keep hb); have HJ7 := hide (Tri.mk (R := R.drop c ++ R.take c) (by rw [List.map_append]; exact (HJ6.out.1.keep hb (Nat.le_refl _)).wider hb.size) (by rw [List.map_append]; exact (HJ6.out.2.keep hb (Nat.le_refl _)).wider hb.size) (by rw [List.map_append]; exact hs)); clear hb hs HB6 HJ6)
    | (go_at_call 5; refine (zz_tri zk zo zv (m + c) (m + c) (m + c) (m + c) (R.drop c ++ R.take c) mv lk ro MR.out _ HJ7.out (by have := Hm.out; omega) HB7.out.lab).mono ?_; rintro e w8 ⟨rfl, hb⟩; have HB8 := hide (HB7.out.keep hb); clear hb HB7 HJ7))
  go_wp2_with fail
  refine (join_js ka ka n2 kc n2 kc (R.map Req.key) (R.map Req.key) _ HB8.out.all.k HB8.out.all.k (by omega) (by omega)).mono ?_
  rintro e w9 ⟨tk, rfl, hs, hb⟩
  have HB9 := hide (HB8.out.keep hb)
  have HJ9 := hide hs
  clear hb hs HB8
  go_wp2_with fail
  refine (join_js oa oa n2 oc n2 oc (R.map Req.op) (R.map Req.op) _ HB9.out.all.o HB9.out.all.o (by omega) (by omega)).mono ?_
  rintro e w10 ⟨to, rfl, hs, hb⟩
  have HB10 := hide (HB9.out.keep hb)
  have HJ10 := hide (And.intro ((HJ9.out.keep hb (Nat.le_refl _)).wider hb.size) hs)
  clear hb hs HB9 HJ9
  go_wp2_with fail
  refine (join_jv va va n2 vc n2 vc (R.map Req.vals) (R.map Req.vals) _ HB10.out.all.v HB10.out.all.v (by omega) (by omega)).mono ?_
  rintro e w11 ⟨tv, rfl, hs, hb⟩
  have HB11 := hide (HB10.out.keep hb)
  have HJ11 := hide (Tri.mk (R := R ++ R) (by rw [List.map_append]; exact (HJ10.out.1.keep hb (Nat.le_refl _)).wider hb.size) (by rw [List.map_append]; exact (HJ10.out.2.keep hb (Nat.le_refl _)).wider hb.size) (by rw [List.map_append]; exact hs))
  clear hb hs HB10 HJ10
  go_wp2_with fail
  refine (zz_tri tk to tv (n2 + n2) (n2 + n2) (n2 + n2) (n2 + n2) (R ++ R) mv lk tw MT.out _ HJ11.out (by omega) HB11.out.lab).mono ?_
  rintro e w12 ⟨rfl, hb⟩
  have HB12 := hide (HB11.out.keep hb).bel
  clear hb HB11 HJ11 fk fo fv bk bo bv
  obtain ⟨e1, e2, e3⟩ := EW.out
  clear EW MF MB MW MR MT
  subst e1 e2 e3
  cases f <;> cases b
  all_goals
    go_wp2
    go_ret
    exact ⟨rfl, HB12.out⟩
end Go.Proofs.Qxb6623441a.Mt
