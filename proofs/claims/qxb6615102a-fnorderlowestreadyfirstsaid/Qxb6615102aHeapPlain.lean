import Derived.KernelRfl
namespace Go.Proofs.Qxb6615102a

/-- Two elements exchanged. -/
def sw (zs : List Int) (i j : Nat) : List Int := (zs.set i (zs.getD j 0)).set j (zs.getD i 0)
theorem sw_len (zs : List Int) (i j : Nat) : (sw zs i j).length = zs.length := by simp [sw]

theorem getD_set (zs : List Int) (i k : Nat) (x : Int) (hi : i < zs.length) : (zs.set i x).getD k 0 = if k = i then x else zs.getD k 0 := by
  rw [List.getD_eq_getElem?_getD, List.getD_eq_getElem?_getD, List.getElem?_set]
  by_cases h : k = i
  · subst h; simp [hi]
  · rw [if_neg (fun e => h e.symm), if_neg h]

theorem sw_get (zs : List Int) (i j k : Nat) (hi : i < zs.length) (hj : j < zs.length) : (sw zs i j).getD k 0 = if k = j then zs.getD i 0 else if k = i then zs.getD j 0 else zs.getD k 0 := by
  unfold sw
  rw [getD_set _ _ _ _ (by simpa using hj)]
  split
  · rfl
  · rw [getD_set _ _ _ _ hi]

theorem sw_perm (zs : List Int) (i j : Nat) (hi : i < zs.length) (hj : j < zs.length) : (sw zs i j).Perm zs := by
  have := List.set_set_perm (as := zs) (i := i) (j := j) hi hj
  unfold sw
  rw [List.getD_eq_getElem?_getD, List.getD_eq_getElem?_getD, List.getElem?_eq_getElem hi, List.getElem?_eq_getElem hj]
  exact this

def par (i : Nat) : Nat := (i - 1) / 2
/-- The first n are ordered as a heap. -/
def Hp (zs : List Int) (n : Nat) : Prop := ∀ k, 0 < k → k < n → zs.getD (par k) 0 ≤ zs.getD k 0
def UpOK (zs : List Int) (j : Nat) : Prop :=
  (∀ k, 0 < k → k < zs.length → k ≠ j → zs.getD (par k) 0 ≤ zs.getD k 0) ∧ (∀ k, 0 < k → k < zs.length → par k = j → 0 < j → zs.getD (par j) 0 ≤ zs.getD k 0)
def DownOK (zs : List Int) (n i : Nat) : Prop :=
  (∀ k, 0 < k → k < n → par k ≠ i → zs.getD (par k) 0 ≤ zs.getD k 0) ∧ (∀ k, 0 < k → k < n → par k = i → 0 < i → zs.getD (par i) 0 ≤ zs.getD k 0)

theorem par_lt (k : Nat) (h : 0 < k) : par k < k := by unfold par; omega

theorem up_stop0 (zs : List Int) (h : UpOK zs 0) : Hp zs zs.length := fun k h0 hk => h.1 k h0 hk (by omega)
theorem up_stop (zs : List Int) (j : Nat) (h : UpOK zs j) (hj : ¬ zs.getD j 0 < zs.getD (par j) 0) : Hp zs zs.length := fun k h0 hk => by
  by_cases e : k = j
  · subst e; omega
  · exact h.1 k h0 hk e
theorem up_step (zs : List Int) (j : Nat) (h0 : 0 < j) (hj : j < zs.length) (h : UpOK zs j) (hl : zs.getD j 0 < zs.getD (par j) 0) : UpOK (sw zs (par j) j) (par j) := by
  have hp := par_lt j h0
  have hpl : par j < zs.length := by omega
  obtain ⟨h1, h2⟩ := h
  refine ⟨fun k hk0 hk hne => ?_, fun k hk0 hk he hpos => ?_⟩
  · rw [sw_len] at hk
    have hpk := par_lt k hk0
    rw [sw_get _ _ _ _ hpl hj, sw_get _ _ _ _ hpl hj]
    by_cases e : k = j
    · subst e
      rw [if_neg (by omega), if_pos rfl, if_pos rfl]
      omega
    · rw [if_neg e, if_neg hne]
      by_cases e1 : par k = j
      · rw [if_pos e1]
        exact h2 k hk0 hk e1 h0
      · rw [if_neg e1]
        by_cases e2 : par k = par j
        · rw [if_pos e2]
          have := h1 k hk0 hk e
          rw [e2] at this
          omega
        · rw [if_neg e2]
          exact h1 k hk0 hk e
  · rw [sw_len] at hk
    have hpp := par_lt (par j) hpos
    have hh := h1 (par j) hpos hpl (by omega)
    rw [sw_get _ _ _ _ hpl hj, sw_get _ _ _ _ hpl hj]
    rw [if_neg (by omega), if_neg (by omega)]
    by_cases e : k = j
    · rw [if_pos e]; exact hh
    · rw [if_neg e]
      have hpk := par_lt k hk0
      rw [if_neg (by omega)]
      have := h1 k hk0 hk e
      rw [he] at this
      omega

theorem up_start (zs : List Int) (x : Int) (h : Hp zs zs.length) : UpOK (zs ++ [x]) zs.length := by
  have g : ∀ k, k < zs.length → (zs ++ [x]).getD k 0 = zs.getD k 0 := by
    intro k hk
    rw [List.getD_eq_getElem?_getD, List.getElem?_append_left hk, ← List.getD_eq_getElem?_getD]
  refine ⟨fun k h0 hk hne => ?_, fun k h0 hk he hpos => ?_⟩
  · have hk' : k < zs.length := by simp at hk; omega
    have hp := par_lt k h0
    rw [g k hk', g _ (by omega)]
    exact h k h0 hk'
  · have hp := par_lt k h0
    simp at hk
    omega

theorem down_stop0 (zs : List Int) (n i : Nat) (h : DownOK zs n i) (hn : n ≤ 2 * i + 1) : Hp zs n := fun k h0 hk => h.1 k h0 hk (by unfold par; omega)
/-- The lesser child j of i is not below it. -/
theorem down_stop (zs : List Int) (n i j : Nat) (h : DownOK zs n i) (hmin : ∀ k, 0 < k → k < n → par k = i → zs.getD j 0 ≤ zs.getD k 0) (hj : ¬ zs.getD j 0 < zs.getD i 0) : Hp zs n := fun k h0 hk => by
  by_cases e : par k = i
  · rw [e]
    have := hmin k h0 hk e
    omega
  · exact h.1 k h0 hk e
theorem down_step (zs : List Int) (n i j : Nat) (hn : n ≤ zs.length) (h0 : 0 < j) (hj : j < n) (hp : par j = i) (h : DownOK zs n i) (hmin : ∀ k, 0 < k → k < n → par k = i → zs.getD j 0 ≤ zs.getD k 0) (hl : zs.getD j 0 < zs.getD i 0) :
    DownOK (sw zs i j) n j := by
  have hpj := par_lt j h0
  have hjl : j < zs.length := by omega
  have hil : i < zs.length := by omega
  obtain ⟨h1, h2⟩ := h
  refine ⟨fun k hk0 hk hne => ?_, fun k hk0 hk he hpos => ?_⟩
  · have hpk := par_lt k hk0
    rw [sw_get _ _ _ _ hil hjl, sw_get _ _ _ _ hil hjl]
    rw [if_neg hne]
    by_cases e : k = j
    · subst e
      rw [if_pos rfl, if_pos hp]
      omega
    · rw [if_neg e]
      by_cases e1 : par k = i
      · rw [if_pos e1, if_neg (by omega)]
        exact hmin k hk0 hk e1
      · rw [if_neg e1]
        by_cases e2 : k = i
        · rw [if_pos e2]
          subst e2
          exact h2 j h0 hj hp hk0
        · rw [if_neg e2]
          exact h1 k hk0 hk e1
  · have hpk := par_lt k hk0
    rw [sw_get _ _ _ _ hil hjl, sw_get _ _ _ _ hil hjl]
    rw [hp, if_neg (by omega), if_pos rfl, if_neg (by omega), if_neg (by omega)]
    have := h1 k hk0 hk (by omega)
    rw [he] at this
    exact this

theorem hp_min_to (zs : List Int) (n : Nat) (h : Hp zs n) : ∀ m k, k ≤ m → k < n → zs.getD 0 0 ≤ zs.getD k 0
  | 0, k, hm, _ => by rw [show k = 0 by omega]; exact Int.le_refl _
  | m + 1, k, hm, hk => by
    rcases Nat.eq_zero_or_pos k with rfl | h0
    · exact Int.le_refl _
    · have h1 := h k h0 hk
      have hp := par_lt k h0
      have ih := hp_min_to zs n h m (par k) (by omega) (by omega)
      omega
theorem hp_min (zs : List Int) (n : Nat) (h : Hp zs n) (k : Nat) (hk : k < n) : zs.getD 0 0 ≤ zs.getD k 0 := hp_min_to zs n h k k (Nat.le_refl _) hk

theorem down_start (zs : List Int) (n : Nat) (hl : zs.length = n + 1) (h : Hp zs (n + 1)) : DownOK (sw zs 0 n) n 0 := by
  refine ⟨fun k h0 hk hne => ?_, fun k _ _ _ h0 => absurd h0 (by omega)⟩
  have hpk := par_lt k h0
  rw [sw_get _ _ _ _ (by omega) (by omega), sw_get _ _ _ _ (by omega) (by omega), if_neg (by omega), if_neg hne, if_neg (by omega), if_neg (by omega)]
  exact h k h0 (by omega)

/-- A list whose last element is known, cut. -/
theorem last_cut (zs : List Int) (n : Nat) (hl : zs.length = n + 1) : zs = zs.take n ++ [zs.getD n 0] := by
  rw [List.getD_eq_getElem?_getD, List.getElem?_eq_getElem (by omega)]
  rw [Option.getD_some]
  have := List.take_append_getElem (i := n) (l := zs) (by omega)
  rw [this]
  rw [List.take_of_length_le (by omega)]
theorem hp_take (zs : List Int) (n : Nat) (hl : n ≤ zs.length) (h : Hp zs n) : Hp (zs.take n) (zs.take n).length := by
  intro k h0 hk
  rw [List.length_take] at hk
  have hp := par_lt k h0
  have g : ∀ m, m < n → (zs.take n).getD m 0 = zs.getD m 0 := by
    intro m hm
    rw [List.getD_eq_getElem?_getD, List.getElem?_take_of_lt hm, ← List.getD_eq_getElem?_getD]
  rw [g _ (by omega), g _ (by omega)]
  exact h k h0 (by omega)
end Go.Proofs.Qxb6615102a
