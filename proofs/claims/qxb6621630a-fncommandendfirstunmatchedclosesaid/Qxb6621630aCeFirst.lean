/-
  The walk of 'zzFirstExcessClose' (10), and of the law 'FnCommandEndFirstUnmatchedClose' (3).
-/
import Derived.Test.Qxb6621630aCeLive
import Derived.Test.Qxb6621630aCeNest
namespace Go.Proofs.Qxb6621630a.Ce
open Go.ChangeShapes Go.WideShapes Go.ChangeAt Go.RowKit

def FromE (s : ByteArray) (M : List Bool) (k o c : Nat) : Prop := fe s.data.toList M 0 0 = (fe (s.data.toList.drop k) (M.drop k) o c).map (· + k)

theorem fromE_start (s : ByteArray) (M : List Bool) : FromE s M 0 0 0 := by simp [FromE]
theorem fromE_end {s : ByteArray} {M : List Bool} {k o c : Nat} (h : FromE s M k o c) (hk : ¬ k < s.size) : fe s.data.toList M 0 0 = none := by
  have hL : s.data.toList.length ≤ k := by rw [size_list]; omega
  rw [h, List.drop_eq_nil_of_le hL]; simp [fe]
theorem dropM_at (M : List Bool) (k : Nat) (h : k < M.length) : M.drop k = M[k] :: M.drop (k + 1) := List.drop_eq_getElem_cons h
theorem fromE_next {s : ByteArray} {M : List Bool} {k o c o' c' : Nat} {b : Bool} (h : FromE s M k o c) (hk : k < s.size) (hm : k < M.length) (hb : M[k] = b)
    (e : ∀ l m, fe (s[k] :: l) (b :: m) o c = (fe l m o' c').map (· + 1)) : FromE s M (k + 1) o' c' := by
  unfold FromE at *
  rw [h, drop_at s k hk, dropM_at M k hm, hb, e, Option.map_map]
  congr 1
  funext x
  simp; omega
theorem fromE_hit {s : ByteArray} {M : List Bool} {k o c : Nat} {b : Bool} (h : FromE s M k o c) (hk : k < s.size) (hm : k < M.length) (hb : M[k] = b)
    (e : ∀ l m, fe (s[k] :: l) (b :: m) o c = some 0) : fe s.data.toList M 0 0 = some k := by
  unfold FromE at *
  rw [h, drop_at s k hk, dropM_at M k hm, hb, e]; simp

theorem e_dead {x : UInt8} {o c : Nat} (l : List UInt8) (m : List Bool) : fe (x :: l) (false :: m) o c = (fe l m o c).map (· + 1) := by simp [fe]
theorem e_open {x : UInt8} {o c : Nat} (hc : c ≤ o) (h1 : ((x.toNat : Int) == 40) = true) (l : List UInt8) (m : List Bool) : fe (x :: l) (true :: m) o c = (fe l m (o + 1) c).map (· + 1) := by
  have hx : x = 40 := u8_is (n := 40) (by simpa using h1)
  subst hx
  have : ¬ o + 1 < c := by omega
  simp [fe, this]
theorem e_shut {x : UInt8} {o c : Nat} (hc : c < o) (h1 : ((x.toNat : Int) == 41) = true) (l : List UInt8) (m : List Bool) : fe (x :: l) (true :: m) o c = (fe l m o (c + 1)).map (· + 1) := by
  have hx : x = 41 := u8_is (n := 41) (by simpa using h1)
  subst hx
  have : ¬ o < c + 1 := by omega
  simp [fe, this]
theorem e_hit {x : UInt8} {o c : Nat} (hc : ¬ c < o) (h1 : ((x.toNat : Int) == 41) = true) (l : List UInt8) (m : List Bool) : fe (x :: l) (true :: m) o c = some 0 := by
  have hx : x = 41 := u8_is (n := 41) (by simpa using h1)
  subst hx
  have : o < c + 1 := by omega
  simp [fe, this]
theorem e_else {x : UInt8} {o c : Nat} (hc : c ≤ o) (h1 : ((x.toNat : Int) == 40) = false) (h2 : ((x.toNat : Int) == 41) = false) (l : List UInt8) (m : List Bool) : fe (x :: l) (true :: m) o c = (fe l m o c).map (· + 1) := by
  have hx : x ≠ 40 := u8_ne (n := 40) (by decide) h1
  have hy : x ≠ 41 := u8_ne (n := 41) (by decide) h2
  have : ¬ o < c := by omega
  simp [fe, this, hx, hy]

set_option maxHeartbeats 400000 in
theorem first_any (s : ByteArray) (M : List Bool) (g : Nat) (w : World) (hs : s.size ≤ 65536) (hM : M.length = s.size) (hcell : ∀ j (hj : j < M.length), w.cell? ⟨g, j, none⟩ = some (.bool M[j])) :
    Calls Try.prog 10 #[.string s, .slice (some ⟨g, 0, none⟩) s.size s.size] w fun e w' => e = .returned (.int .i64 (toI (fe s.data.toList M 0 0))) ∧ w' = w := by
  have HC := hide hcell
  have HM := hide hM
  clear hcell hM
  go_enter Try.func10, Try.ntmps10
  go_wp2
  go_loop [5, 6, 7] (fun ov cv iv => ∃ k o c : Nat, k ≤ s.size ∧ o ≤ k ∧ c ≤ o ∧ ov = .int .i64 o ∧ cv = .int .i64 c ∧ iv = .int .i64 k ∧ FromE s M k o c) (fun _ _ iv => s.size - (intOf iv).toNat)
  case atStart => exact ⟨0, 0, 0, Nat.zero_le _, by omega, by omega, rfl, rfl, rfl, fromE_start s M⟩
  case round =>
    obtain ⟨k, o, c, hk, ho, hc, rfl, rfl, rfl, hI⟩ := hrel
    by_cases hlt : k < s.size
    · have hm : k < M.length := by rw [HM.out]; exact hlt
      have hcell := HC.out k hm
      obtain ⟨b, hb⟩ : ∃ b, M[k] = b := ⟨_, rfl⟩
      rw [hb] at hcell
      have HB := hide hb
      clear hb
      cases b
      · go_wp2
        go_round
        case rel => exact ⟨k + 1, o, c, by omega, by omega, by omega, rfl, rfl, by go_num, fromE_next hI hlt hm HB.out e_dead⟩
        case measure => simp [intOf]; omega
      · have h3 : (((s[k].toNat : Int) == 40) = true ∧ ((s[k].toNat : Int) == 41) = false) ∨ (((s[k].toNat : Int) == 40) = false ∧ ((s[k].toNat : Int) == 41) = true) ∨ (((s[k].toNat : Int) == 40) = false ∧ ((s[k].toNat : Int) == 41) = false) := by
          by_cases h : s[k].toNat = 40
          · left; simp [h]
          · by_cases h' : s[k].toNat = 41
            · right; left; simp [h']
            · right; right; simp; omega
        rcases h3 with ⟨h40, h41⟩ | ⟨h40, h41⟩ | ⟨h40, h41⟩
        · go_wp2
          go_round
          case rel => exact ⟨k + 1, o + 1, c, by omega, by omega, by omega, by go_num, rfl, by go_num, fromE_next hI hlt hm HB.out (e_open hc h40)⟩
          case measure => simp [intOf]; omega
        · by_cases hco : c < o
          · go_wp2
            go_round
            case rel => exact ⟨k + 1, o, c + 1, by omega, by omega, by omega, rfl, by go_num, by go_num, fromE_next hI hlt hm HB.out (e_shut hco h41)⟩
            case measure => simp [intOf]; omega
          · go_wp2
            go_ret
            exact ⟨by rw [fromE_hit hI hlt hm HB.out (e_hit hco h41)]; rfl, rfl⟩
        · go_wp2
          go_round
          case rel => exact ⟨k + 1, o, c, by omega, by omega, by omega, rfl, rfl, by go_num, fromE_next hI hlt hm HB.out (e_else hc h40 h41)⟩
          case measure => simp [intOf]; omega
    · go_wp2
      go_ret
      exact ⟨by rw [fromE_end hI hlt]; rfl, rfl⟩

theorem small1_any (a : ByteArray) (w : World) (w0 : a.size ≤ maxLen) :
    Calls Try.prog 7 #[.string a] w fun e w' => (∃ v, e = .returned (.bool v)) ∧ w' = w := by
  unfold maxLen at w0
  go_enter Try.func7, Try.ntmps7
  go_wp2
  all_goals (go_ret; exact ⟨⟨_, rfl⟩, rfl⟩)
theorem small1_yes (a : ByteArray) (w : World) (w0 : a.size ≤ 65536) :
    Calls Try.prog 7 #[.string a] w fun e w' => e = .returned (.bool true) ∧ w' = w := by
  go_enter Try.func7, Try.ntmps7
  go_wp2
  all_goals (go_ret; exact ⟨rfl, rfl⟩)

theorem first_big (a : ByteArray) (w : World) (w0 : a.size ≤ maxLen) (hb : ¬ a.size ≤ 65536) :
    Calls Try.prog 3 #[.string a] w fun e w' => e = .returned (.bool true) ∧ Below w.heap.size w w' := by
  go_enter Try.func3, Try.ntmps3
  go_wp2_with fail
  refine (small1_any a _ w0).mono ?_
  rintro e w' ⟨⟨v, rfl⟩, rfl⟩
  cases v
  · go_wp2_with fail
    go_ret
    exact ⟨rfl, Below.refl _ _⟩
  · go_wp2_with fail
    all_goals first | (go_ret; exact ⟨rfl, Below.refl _ _⟩) | (exfalso; omega)

set_option maxHeartbeats 400000 in
theorem first_small (a : ByteArray) (w : World) (w0 : a.size ≤ 65536) :
    Calls Try.prog 3 #[.string a] w fun e w' => e = .returned (.bool true) ∧ Below w.heap.size w w' := by
  have hfin : toI (ceI a.data.toList 1 0) = toI (fe a.data.toList (lv a.data.toList 0) 0 0) := by rw [ce_fe _ 1 0 0 0 (by omega) (by omega)]
  have HF := hide hfin
  clear hfin
  go_enter Try.func3, Try.ntmps3
  go_wp2_with fail
  refine (small1_yes a _ w0).mono ?_
  rintro e w' ⟨rfl, rfl⟩
  go_wp2_with fail
  refine (live_any a _ w0).mono ?_
  rintro e w1 ⟨rfl, hown, hbel⟩
  go_wp2_with fail
  refine (zz_any a _ (by omega) _ HF.out).mono ?_
  rintro e w2 ⟨rfl, rfl⟩
  go_wp2_with fail
  refine (first_any a (lv a.data.toList 0) _ _ w0 ?_ ?_).mono ?_
  · rw [lv_length, size_list]
  · intro j hj
    rw [hown.cellAt j (by rw [lv_length, size_list] at hj; omega), bools, List.getElem?_map, List.getElem?_eq_getElem hj]; rfl
  rintro e w3 ⟨rfl, rfl⟩
  go_wp2
  go_ret
  exact ⟨rfl, hbel⟩

theorem first_all (a : ByteArray) (w : World) (w0 : a.size ≤ maxLen) :
    Calls Try.prog 3 #[.string a] w fun e w' => e = .returned (.bool true) ∧ Below w.heap.size w w' := by
  by_cases hb : a.size ≤ 65536
  · exact first_small a w hb
  · exact first_big a w w0 hb
end Go.Proofs.Qxb6621630a.Ce
