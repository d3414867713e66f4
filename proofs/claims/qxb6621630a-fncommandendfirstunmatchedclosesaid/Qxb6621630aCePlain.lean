namespace Go.Proofs.Qxb6621630a.Ce

/-- the index of the byte that closes, read from depth d inside the quote q (0: none). -/
def ceI : List UInt8 → Nat → UInt8 → Option Nat
  | [], _, _ => none
  | c :: l, d, q =>
    if q ≠ 0 then (ceI l d (if c = q then 0 else q)).map (· + 1)
    else if c = 39 ∨ c = 34 then (ceI l d c).map (· + 1)
    else if c = 40 then (ceI l (d + 1) 0).map (· + 1)
    else if c = 41 then (if d = 1 then some 0 else (ceI l (d - 1) 0).map (· + 1))
    else (ceI l d 0).map (· + 1)

def toI : Option Nat → Int
  | none => -1
  | some n => n

theorem ceI_lt : ∀ (l : List UInt8) (d : Nat) (q : UInt8) (r : Nat), ceI l d q = some r → r < l.length ∧ l[r]? = some 41
  | [], _, _, _, h => by simp [ceI] at h
  | c :: l, d, q, r, h => by
    have ih := ceI_lt l
    have key : ∀ d' q', (ceI l d' q').map (· + 1) = some r → r < (c :: l).length ∧ (c :: l)[r]? = some 41 := by
      intro d' q' h
      simp only [Option.map_eq_some_iff] at h
      obtain ⟨x, hx, rfl⟩ := h
      have := ih d' q' x hx
      simpa using this
    simp only [ceI] at h
    split at h
    · exact key _ _ h
    split at h
    · exact key _ _ h
    split at h
    · exact key _ _ h
    split at h
    · split at h
      · rename_i e _
        simp at h; subst h; subst e; simp
      · exact key _ _ h
    · exact key _ _ h

theorem ceI_none_up : ∀ (l : List UInt8) (d : Nat) (q : UInt8), 1 ≤ d → ceI l d q = none → ceI l (d + 1) q = none
  | [], _, _, _, _ => by simp [ceI]
  | c :: l, d, q, hd, h => by
    have ih := ceI_none_up l
    simp only [ceI] at h ⊢
    split at h
    · rename_i hq; rw [if_pos hq]; simp at h ⊢; exact ih _ _ hd h
    rename_i hq; rw [if_neg hq]
    split at h
    · rename_i hc; rw [if_pos hc]; simp at h ⊢; exact ih _ _ hd h
    rename_i hc; rw [if_neg hc]
    split at h
    · rename_i hc; rw [if_pos hc]; simp at h ⊢; exact ih _ _ (by omega) h
    rename_i hc; rw [if_neg hc]
    split at h
    · rename_i hc; rw [if_pos hc]
      split at h
      · simp at h
      · rw [if_neg (by omega)]; simp at h ⊢
        have := ih (d - 1) 0 (by omega) h
        rw [show d - 1 + 1 = d by omega] at this
        exact this
    · rename_i hc; rw [if_neg hc]; simp at h ⊢; exact ih _ _ hd h

theorem ceI_none_app (b : List UInt8) : ∀ (l : List UInt8) (d : Nat) (q : UInt8) (x : Nat), ceI l d q = none → ceI (l ++ b) d q = some x → l.length ≤ x
  | [], _, _, _, _, _ => by simp
  | c :: l, d, q, x, h, hx => by
    have ih := ceI_none_app b l
    have key : ∀ d' q', (ceI l d' q').map (· + 1) = none → (ceI (l ++ b) d' q').map (· + 1) = some x → (c :: l).length ≤ x := by
      intro d' q' h hx
      simp only [Option.map_eq_some_iff] at hx
      obtain ⟨y, hy, rfl⟩ := hx
      simp at h
      have := ih d' q' y h hy
      simpa using this
    simp only [ceI, List.cons_append] at h hx
    split at h
    · rename_i hq; rw [if_pos hq] at hx; exact key _ _ h hx
    rename_i hq; rw [if_neg hq] at hx
    split at h
    · rename_i hc; rw [if_pos hc] at hx; exact key _ _ h hx
    rename_i hc; rw [if_neg hc] at hx
    split at h
    · rename_i hc; rw [if_pos hc] at hx; exact key _ _ h hx
    rename_i hc; rw [if_neg hc] at hx
    split at h
    · rename_i hc; rw [if_pos hc] at hx
      split at h
      · simp at h
      · rename_i hd; rw [if_neg hd] at hx; exact key _ _ h hx
    · rename_i hc; rw [if_neg hc] at hx; exact key _ _ h hx

/-- what follows the close does not matter; and one level deeper the rest is read alone. -/
theorem ceI_some_cut (b : List UInt8) : ∀ (l : List UInt8) (d : Nat) (q : UInt8) (r : Nat), 1 ≤ d → ceI l d q = some r →
    ceI (l.take (r + 1) ++ b) d q = some r ∧ ceI (l.take (r + 1) ++ b) (d + 1) q = (ceI b 1 0).map (· + (r + 1))
  | [], _, _, _, _, h => by simp [ceI] at h
  | c :: l, d, q, r, hd, h => by
    have ih := ceI_some_cut b l
    have key : ∀ d' q', 1 ≤ d' → (ceI l d' q').map (· + 1) = some r →
        (ceI (l.take r ++ b) d' q').map (· + 1) = some r ∧ (ceI (l.take r ++ b) (d' + 1) q').map (· + 1) = (ceI b 1 0).map (· + (r + 1)) := by
      intro d' q' hd' h
      simp only [Option.map_eq_some_iff] at h
      obtain ⟨y, hy, rfl⟩ := h
      have := ih d' q' y hd' hy
      rw [this.1, this.2]
      refine ⟨rfl, ?_⟩
      rw [Option.map_map]
      congr 1
    rw [List.take_succ_cons, List.cons_append]
    simp only [ceI] at h ⊢
    split at h
    · rename_i hq; rw [if_pos hq, if_pos hq]; exact key _ _ hd h
    rename_i hq; rw [if_neg hq, if_neg hq]
    split at h
    · rename_i hc; rw [if_pos hc, if_pos hc]; exact key _ _ hd h
    rename_i hc; rw [if_neg hc, if_neg hc]
    split at h
    · rename_i hc; rw [if_pos hc, if_pos hc]; exact key _ _ (by omega) h
    rename_i hc; rw [if_neg hc, if_neg hc]
    split at h
    · rename_i hc; rw [if_pos hc, if_pos hc]
      split at h
      · rename_i hd1
        simp at h; subst h; subst hd1
        simp
      · rename_i hd1
        rw [if_neg hd1, if_neg (by omega)]
        have := key (d - 1) 0 (by omega) h
        rw [show d - 1 + 1 = d by omega] at this
        exact this
    · rename_i hc; rw [if_neg hc, if_neg hc]; exact key _ _ hd h


/-- which bytes stand outside quotes, read inside the quote q (0: none). -/
def lv : List UInt8 → UInt8 → List Bool
  | [], _ => []
  | c :: l, q =>
    if q ≠ 0 then false :: lv l (if c = q then 0 else q)
    else if c = 39 ∨ c = 34 then false :: lv l c
    else true :: lv l 0

/-- the first place at which the live ')' outnumber the live '('. -/
def fe : List UInt8 → List Bool → Nat → Nat → Option Nat
  | c :: l, b :: m, o, k =>
    if b = false then (fe l m o k).map (· + 1)
    else if (if c = 40 then o + 1 else o) < (if c = 41 then k + 1 else k) then some 0
    else (fe l m (if c = 40 then o + 1 else o) (if c = 41 then k + 1 else k)).map (· + 1)
  | _, _, _, _ => none

theorem lv_length : ∀ (l : List UInt8) (q : UInt8), (lv l q).length = l.length
  | [], _ => rfl
  | c :: l, q => by
    have ih := lv_length l
    simp only [lv]
    split
    · simp [ih]
    split <;> simp [ih]

theorem ce_fe : ∀ (l : List UInt8) (d : Nat) (q : UInt8) (o k : Nat), 1 ≤ d → d + k = o + 1 → ceI l d q = fe l (lv l q) o k
  | [], _, _, _, _, _, _ => by simp [ceI, fe]
  | c :: l, d, q, o, k, hd, he => by
    have ih := ce_fe l
    simp only [ceI, lv]
    by_cases hq : q ≠ 0
    · rw [if_pos hq, if_pos hq]; simp only [fe, if_true]; rw [ih _ _ o k hd he]
    rw [if_neg hq, if_neg hq]
    by_cases hc : c = 39 ∨ c = 34
    · rw [if_pos hc, if_pos hc]; simp only [fe, if_true]; rw [ih _ _ o k hd he]
    rw [if_neg hc, if_neg hc]
    simp only [fe]
    rw [if_neg (show ¬ (true = false) by decide)]
    by_cases h1 : c = 40
    · subst h1
      have e := ih (d + 1) 0 (o + 1) k (by omega) (by omega)
      have h3 : ¬ o + 1 < k := by omega
      simp [e, h3]
    by_cases h2 : c = 41
    · subst h2
      by_cases hd1 : d = 1
      · have h3 : o < k + 1 := by omega
        simp [hd1, h3]
      · have e := ih (d - 1) 0 o (k + 1) (by omega) (by omega)
        have h3 : ¬ o < k + 1 := by omega
        simp [hd1, h3, e]
    · have h3 : ¬ o < k := by omega
      simp [h1, h2, h3, ih d 0 o k hd he]


theorem lv_in (c : UInt8) (hc : c ≠ 0) (t : List UInt8) : ∀ m : List UInt8, (∀ x ∈ m, x ≠ c) → lv (m ++ t) c = List.replicate m.length false ++ lv t c
  | [], _ => by simp
  | x :: m, h => by
    have ih := lv_in c hc t m (fun y hy => h y (by simp [hy]))
    have hx : x ≠ c := h x (by simp)
    simp [lv, hc, hx, ih, List.replicate_succ]

theorem lv_span (c : UInt8) (hc : c = 39 ∨ c = 34) (m t : List UInt8) (h : ∀ x ∈ m, x ≠ c) :
    lv (c :: (m ++ c :: t)) 0 = List.replicate (m.length + 2) false ++ lv t 0 := by
  have h0 : c ≠ 0 := by rcases hc with rfl | rfl <;> decide
  have e : lv (c :: (m ++ c :: t)) 0 = false :: lv (m ++ c :: t) c := by simp [lv, hc]
  rw [e, lv_in c h0 _ m h]
  have e2 : lv (c :: t) c = false :: lv t 0 := by simp [lv, h0]
  rw [e2]
  simp [List.replicate_succ']
  rw [← List.cons_append, ← List.replicate_succ, List.replicate_succ', List.append_assoc]; simp

theorem lv_open (c : UInt8) (hc : c = 39 ∨ c = 34) (m : List UInt8) (h : ∀ x ∈ m, x ≠ c) :
    lv (c :: m) 0 = List.replicate (m.length + 1) false := by
  have h0 : c ≠ 0 := by rcases hc with rfl | rfl <;> decide
  have e : lv (c :: m) 0 = false :: lv m c := by simp [lv, hc]
  have e2 := lv_in c h0 [] m h
  rw [e]
  simp [lv] at e2
  rw [e2, List.replicate_succ]

def msk (L : List UInt8) (i : Nat) : List Bool := (lv L 0).take i ++ List.replicate (L.length - i) false
def Bnd (L : List UInt8) (i : Nat) : Prop := (lv L 0).drop i = lv (L.drop i) 0

theorem msk_length (L : List UInt8) (i : Nat) (hi : i ≤ L.length) : (msk L i).length = L.length := by
  simp [msk, lv_length]; omega

theorem bnd_zero (L : List UInt8) : Bnd L 0 := by simp [Bnd]
theorem msk_zero (L : List UInt8) : msk L 0 = List.replicate L.length false := by simp [msk]
theorem msk_full (L : List UInt8) : msk L L.length = lv L 0 := by
  unfold msk; rw [List.take_of_length_le (by rw [lv_length]; exact Nat.le_refl _)]; simp

theorem bnd_live (L : List UInt8) (i : Nat) (hi : i < L.length) (hb : Bnd L i) (hc : ¬ (L[i] = 39 ∨ L[i] = 34)) :
    Bnd L (i + 1) ∧ msk L (i + 1) = (msk L i).set i true := by
  unfold Bnd at *
  have e : L.drop i = L[i] :: L.drop (i + 1) := List.drop_eq_getElem_cons hi
  have e2 : lv (L.drop i) 0 = true :: lv (L.drop (i + 1)) 0 := by rw [e]; simp [lv, hc]
  rw [e2] at hb
  have hi' : i < (lv L 0).length := by rw [lv_length]; exact hi
  have e3 : (lv L 0).drop i = (lv L 0)[i] :: (lv L 0).drop (i + 1) := List.drop_eq_getElem_cons hi'
  rw [e3] at hb
  simp only [List.cons.injEq] at hb
  refine ⟨hb.2, ?_⟩
  unfold msk
  rw [List.set_append_right _ _ (by rw [List.length_take]; omega)]
  rw [List.take_succ_eq_append_getElem hi', hb.1]
  rw [show (i - (List.take i (lv L 0)).length) = 0 by simp; omega]
  rw [show L.length - i = (L.length - (i + 1)) + 1 by omega, List.replicate_succ]
  simp

theorem bnd_span (L : List UInt8) (i j : Nat) (hij : i < j) (hj : j < L.length) (hb : Bnd L i) (hc : L[i] = 39 ∨ L[i] = 34)
    (he : L[j] = L[i]) (hm : ∀ x (hx : x < L.length), i < x → x < j → L[x] ≠ L[i]) :
    Bnd L (j + 1) ∧ msk L (j + 1) = msk L i := by
  unfold Bnd at *
  have hi : i < L.length := by omega
  have e : L.drop i = L[i] :: ((L.drop (i + 1)).take (j - i - 1) ++ L[i] :: L.drop (j + 1)) := by
    rw [List.drop_eq_getElem_cons hi]
    congr 1
    have h1 : L.drop (i + 1) = (L.drop (i + 1)).take (j - i - 1) ++ (L.drop (i + 1)).drop (j - i - 1) := (List.take_append_drop _ _).symm
    have h2 : (L.drop (i + 1)).drop (j - i - 1) = L[i] :: L.drop (j + 1) := by
      rw [List.drop_drop, show i + 1 + (j - i - 1) = j by omega, List.drop_eq_getElem_cons hj, he]
    rw [h2] at h1
    exact h1
  have hmm : ∀ x ∈ (L.drop (i + 1)).take (j - i - 1), x ≠ L[i] := by
    intro x hx
    obtain ⟨k, hk, rfl⟩ := List.getElem_of_mem hx
    simp at hk
    simp only [List.getElem_take, List.getElem_drop]
    exact hm _ (by omega) (by omega) (by omega)
  have e2 := lv_span L[i] hc _ (L.drop (j + 1)) hmm
  rw [← e] at e2
  have hlen : ((L.drop (i + 1)).take (j - i - 1)).length = j - i - 1 := by simp; omega
  rw [hlen, show j - i - 1 + 2 = j + 1 - i by omega] at e2
  rw [e2] at hb
  have hd : (lv L 0).drop (j + 1) = lv (L.drop (j + 1)) 0 := by
    have : (lv L 0).drop (j + 1) = ((lv L 0).drop i).drop (j + 1 - i) := by rw [List.drop_drop]; congr 1; omega
    rw [this, hb]
    rw [List.drop_left' (by simp)]
  refine ⟨hd, ?_⟩
  unfold msk
  have ht : (lv L 0).take (j + 1) = (lv L 0).take i ++ List.replicate (j + 1 - i) false := by
    have h1 : (lv L 0).take (j + 1) = (lv L 0).take (i + (j + 1 - i)) := by congr 1; omega
    rw [h1, List.take_add, hb]
    congr 1
    rw [List.take_left' (by simp)]
  rw [ht, List.append_assoc, List.replicate_append_replicate]
  congr 2
  omega

theorem bnd_open (L : List UInt8) (i : Nat) (hi : i < L.length) (hb : Bnd L i) (hc : L[i] = 39 ∨ L[i] = 34)
    (hm : ∀ x (hx : x < L.length), i < x → L[x] ≠ L[i]) : msk L i = lv L 0 := by
  unfold Bnd at *
  have hmm : ∀ x ∈ L.drop (i + 1), x ≠ L[i] := by
    intro x hx
    obtain ⟨k, hk, rfl⟩ := List.getElem_of_mem hx
    simp at hk
    simp only [List.getElem_drop]
    exact hm _ (by omega) (by omega)
  have e2 := lv_open L[i] hc _ hmm
  rw [← List.drop_eq_getElem_cons hi] at e2
  have hlen : (L.drop (i + 1)).length + 1 = L.length - i := by simp; omega
  rw [hlen] at e2
  unfold msk
  rw [← e2, ← hb, List.take_append_drop]

end Go.Proofs.Qxb6621630a.Ce
