/-
  The walk of the law 'FnCommandEndCutAndNest' (4): it returns true, at every input.
-/
import Derived.Test.Qxb6621630aCeWalk
import Derived.WalkLawsBesides
namespace Go.Proofs.Qxb6621630a.Ce
open Go.ChangeShapes Go.WideShapes Go.ChangeAt Go.RowKit

theorem zz_any (s : ByteArray) (w : World) (hs : s.size ≤ 16777216) (r : Int) (hr : toI (ceI s.data.toList 1 0) = r) :
    Calls Try.prog 9 #[.string s] w fun e w' => e = .returned (.int .i64 r) ∧ w' = w := by
  subst hr
  go_enter Try.func9, Try.ntmps9
  go_wp2_with fail
  refine (ce_any s _ hs).mono ?_
  rintro e w' ⟨rfl, rfl⟩
  go_wp2
  go_ret
  exact ⟨rfl, rfl⟩

theorem small_any (a b : ByteArray) (w : World) (w0 : a.size ≤ maxLen) (w1 : b.size ≤ maxLen) :
    Calls Try.prog 11 #[.string a, .string b] w fun e w' => (∃ v, e = .returned (.bool v)) ∧ w' = w := by
  unfold maxLen at w0 w1
  go_enter Try.func11, Try.ntmps11
  go_wp2
  all_goals (go_ret; exact ⟨⟨_, rfl⟩, rfl⟩)

theorem small_yes (a b : ByteArray) (w : World) (w0 : a.size ≤ 65536) (w1 : b.size ≤ 65536) :
    Calls Try.prog 11 #[.string a, .string b] w fun e w' => e = .returned (.bool true) ∧ w' = w := by
  go_enter Try.func11, Try.ntmps11
  go_wp2
  all_goals (go_ret; exact ⟨rfl, rfl⟩)

theorem nest_big (a b : ByteArray) (w : World) (w0 : a.size ≤ maxLen) (w1 : b.size ≤ maxLen) (hb : ¬ (a.size ≤ 65536 ∧ b.size ≤ 65536)) :
    Calls Try.prog 4 #[.string a, .string b] w fun e w' => e = .returned (.bool true) ∧ w' = w := by
  go_enter Try.func4, Try.ntmps4
  go_wp2_with fail
  refine (small_any a b _ w0 w1).mono ?_
  rintro e w' ⟨⟨v, rfl⟩, rfl⟩
  cases v
  · go_wp2_with fail
    go_ret
    exact ⟨rfl, rfl⟩
  · go_wp2_with fail
    all_goals first | (go_ret; exact ⟨rfl, rfl⟩) | (exfalso; omega)

theorem par_size (a b : ByteArray) : (ByteArray.mk #[40] ++ a ++ b).size = 1 + a.size + b.size := by
  rw [ByteArray.size_append, ByteArray.size_append]; rfl
theorem list_app (a b : ByteArray) : (a ++ b).data.toList = a.data.toList ++ b.data.toList := by simp
theorem list_par (a b : ByteArray) : (ByteArray.mk #[40] ++ a ++ b).data.toList = 40 :: (a.data.toList ++ b.data.toList) := by simp

theorem ceI_par (l : List UInt8) : ceI (40 :: l) 1 0 = (ceI l 2 0).map (· + 1) := by simp [ceI]

theorem none_j (a b : ByteArray) (h : ceI a.data.toList 1 0 = none) : toI (ceI (a ++ b).data.toList 1 0) = -1 ∨ (a.size : Int) ≤ toI (ceI (a ++ b).data.toList 1 0) := by
  rw [list_app]
  match hx : ceI (a.data.toList ++ b.data.toList) 1 0 with
  | none => exact .inl rfl
  | some x =>
    have := ceI_none_app _ _ _ _ _ h hx
    right
    simp at this
    simp only [toI]
    have e : a.data.size = a.size := rfl
    omega
theorem none_k (a b : ByteArray) (h : ceI a.data.toList 1 0 = none) : toI (ceI (ByteArray.mk #[40] ++ a ++ b).data.toList 1 0) = -1 ∨ (a.size : Int) < toI (ceI (ByteArray.mk #[40] ++ a ++ b).data.toList 1 0) := by
  rw [list_par, ceI_par]
  match hx : ceI (a.data.toList ++ b.data.toList) 2 0 with
  | none => exact .inl rfl
  | some x =>
    have := ceI_none_app _ _ _ _ _ (ceI_none_up _ 1 0 (by omega) h) hx
    right
    simp at this
    simp only [toI, Option.map_some]
    have e : a.data.size = a.size := rfl
    omega

set_option maxHeartbeats 400000 in
theorem nest_none (a b : ByteArray) (w : World) (w0 : a.size ≤ 65536) (w1 : b.size ≤ 65536) (h : ceI a.data.toList 1 0 = none) :
    Calls Try.prog 4 #[.string a, .string b] w fun e w' => e = .returned (.bool true) ∧ w' = w := by
  have ha : toI (ceI a.data.toList 1 0) = -1 := by rw [h]; rfl
  have hj := none_j a b h
  have hk := none_k a b h
  clear h
  generalize ej : toI (ceI (a ++ b).data.toList 1 0) = j at hj
  generalize ek : toI (ceI (ByteArray.mk #[40] ++ a ++ b).data.toList 1 0) = k at hk
  have EA := hide ha
  have EJ := hide ej
  have EK := hide ek
  have HJ := hide hj
  have HK := hide hk
  clear ej ek ha hj hk
  go_enter Try.func4, Try.ntmps4
  go_wp2_with fail
  refine (small_yes a b _ w0 w1).mono ?_
  rintro e w' ⟨rfl, rfl⟩
  go_wp2_with fail
  refine (zz_any a _ (by omega) (-1) EA.out).mono ?_
  rintro e w' ⟨rfl, rfl⟩
  go_wp2_with fail
  refine (zz_any (a ++ b) _ (by rw [ByteArray.size_append]; omega) j EJ.out).mono ?_
  rintro e w' ⟨rfl, rfl⟩
  go_wp2_with fail
  refine (zz_any (ByteArray.mk #[40] ++ a ++ b) _ (by rw [par_size]; omega) k EK.out).mono ?_
  rintro e w' ⟨rfl, rfl⟩
  have hj := HJ.out
  have hk := HK.out
  clear HJ HK EJ EK EA
  rcases hj with rfl | hj <;> rcases hk with rfl | hk
  · go_wp2
    go_ret
    exact ⟨rfl, rfl⟩
  · have h1 : (k == -1) = false := by simp; omega
    go_wp2
    go_ret
    exact ⟨rfl, rfl⟩
  · have h1 : (j == -1) = false := by simp; omega
    go_wp2
    go_ret
    exact ⟨rfl, rfl⟩
  · have h1 : (k == -1) = false := by simp; omega
    have h2 : (j == -1) = false := by simp; omega
    go_wp2
    go_ret
    exact ⟨rfl, rfl⟩

theorem some_at (a : ByteArray) (r : Nat) (h : ceI a.data.toList 1 0 = some r) : ∃ hr : r < a.size, a[r] = 41 := by
  obtain ⟨h1, h2⟩ := ceI_lt _ _ _ _ h
  have hr : r < a.size := by simpa using h1
  refine ⟨hr, ?_⟩
  rw [List.getElem?_eq_getElem h1] at h2
  exact Option.some.inj h2

theorem cut_list (a : ByteArray) (n : Nat) : (a.extract 0 n).data.toList = a.data.toList.take n := by simp

theorem some_cb (a b : ByteArray) (r : Nat) (h : ceI a.data.toList 1 0 = some r) : toI (ceI (a.extract 0 (r + 1) ++ b).data.toList 1 0) = r := by
  rw [list_app, cut_list, (ceI_some_cut _ _ _ _ _ (by omega) h).1]; rfl
theorem some_pcb (a b : ByteArray) (r : Nat) (h : ceI a.data.toList 1 0 = some r) (e : Int) (he : toI (ceI b.data.toList 1 0) = e) :
    (e = -1 ∧ toI (ceI (ByteArray.mk #[40] ++ a.extract 0 (r + 1) ++ b).data.toList 1 0) = -1) ∨
    (0 ≤ e ∧ e ≤ b.size ∧ toI (ceI (ByteArray.mk #[40] ++ a.extract 0 (r + 1) ++ b).data.toList 1 0) = 1 + (r + 1) + e) := by
  rw [list_par, ceI_par, cut_list, (ceI_some_cut _ _ _ _ _ (by omega) h).2]
  match hx : ceI b.data.toList 1 0 with
  | none => left; rw [hx] at he; subst he; exact ⟨rfl, rfl⟩
  | some x =>
    right
    rw [hx] at he
    subst he
    have h3 := (ceI_lt _ _ _ _ hx).1
    simp at h3
    have e : b.data.size = b.size := rfl
    simp only [toI, Option.map_some]
    omega

set_option maxHeartbeats 400000 in
theorem nest_some (a b : ByteArray) (w : World) (w0 : a.size ≤ 65536) (w1 : b.size ≤ 65536) (r : Nat) (h : ceI a.data.toList 1 0 = some r) :
    Calls Try.prog 4 #[.string a, .string b] w fun e w' => e = .returned (.bool true) ∧ w' = w := by
  have ha : toI (ceI a.data.toList 1 0) = (r : Int) := by rw [h]; rfl
  obtain ⟨hr, hc⟩ := some_at a r h
  have hcb := some_cb a b r h
  have hpcb := some_pcb a b r h _ rfl
  have hsz : (a.extract 0 (r + 1)).size = r + 1 := by rw [ByteArray.size_extract]; omega
  clear h
  generalize ee : toI (ceI b.data.toList 1 0) = ev at hpcb
  generalize ek : toI (ceI (ByteArray.mk #[40] ++ a.extract 0 (r + 1) ++ b).data.toList 1 0) = k at hpcb
  have EA := hide ha
  have EE := hide ee
  have EK := hide ek
  have EC := hide hcb
  have HP := hide hpcb
  have HC := hide hc
  have HS := hide hsz
  clear ee ek ha hcb hpcb hc hsz
  have h1 : ((r : Int) == -1) = false := by simp
  go_enter Try.func4, Try.ntmps4
  go_wp2_with fail
  refine (small_yes a b _ w0 w1).mono ?_
  rintro e w' ⟨rfl, rfl⟩
  go_wp2_with fail
  refine (zz_any a _ (by omega) r EA.out).mono ?_
  rintro e w' ⟨rfl, rfl⟩
  have h2 : ((a[r].toNat : Int) != 41) = false := by rw [HC.out]; rfl
  go_wp2_with fail
  refine (zz_any b _ (by omega) ev EE.out).mono ?_
  rintro e w' ⟨rfl, rfl⟩
  generalize a.extract 0 (r + 1) = c at *
  have hs1 : (c.size : Int) ≤ 65537 := by rw [HS.out]; omega
  have HP1 := HP.out
  clear EA EE HC HP
  rcases HP1 with ⟨rfl, hk⟩ | ⟨he0, heb, hk⟩
  · have HK := hide hk
    clear hk
    go_wp2_with fail
    refine (zz_any (c ++ b) _ (by rw [ByteArray.size_append, HS.out]; omega) r EC.out).mono ?_
    rintro e w' ⟨rfl, rfl⟩
    go_wp2_with fail
    refine (zz_any (ByteArray.mk #[40] ++ c ++ b) _ (by rw [par_size, HS.out]; omega) k EK.out).mono ?_
    rintro e w' ⟨rfl, rfl⟩
    have hk1 : (k == -1) = true := by rw [HK.out]; rfl
    go_wp2
    go_ret
    exact ⟨rfl, rfl⟩
  · have HK := hide hk
    clear hk
    have heb1 : ev ≤ 65536 := by omega
    go_wp2_with fail
    refine (zz_any (c ++ b) _ (by rw [ByteArray.size_append, HS.out]; omega) r EC.out).mono ?_
    rintro e w' ⟨rfl, rfl⟩
    go_wp2_with fail
    refine (zz_any (ByteArray.mk #[40] ++ c ++ b) _ (by rw [par_size, HS.out]; omega) k EK.out).mono ?_
    rintro e w' ⟨rfl, rfl⟩
    have hk1 : (k == 1 + (c.size : Int) + ev) = true := by rw [HK.out, HS.out]; simp
    go_wp2
    go_ret
    exact ⟨rfl, rfl⟩

theorem nest_all (a b : ByteArray) (w : World) (w0 : a.size ≤ maxLen) (w1 : b.size ≤ maxLen) :
    Calls Try.prog 4 #[.string a, .string b] w fun e w' => e = .returned (.bool true) ∧ w' = w := by
  by_cases hb : a.size ≤ 65536 ∧ b.size ≤ 65536
  · match h : ceI a.data.toList 1 0 with
    | none => exact nest_none a b w hb.1 hb.2 h
    | some r => exact nest_some a b w hb.1 hb.2 r h
  · exact nest_big a b w w0 w1 hb
end Go.Proofs.Qxb6621630a.Ce
