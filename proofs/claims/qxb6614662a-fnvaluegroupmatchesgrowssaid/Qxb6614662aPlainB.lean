import Derived.Test.Qxb6614662aPlain
namespace Go.Proofs.Qxb6614662a.Pl
open Go.Lib (compareBytes compareInt)

def low (c : Nat) : Nat := if 65 ≤ c ∧ c ≤ 90 then c + 32 else c
def kb (k : Int) (c : Nat) : Nat := if k = 0 then low c else c
def kcmp (k : Int) : List UInt8 → List UInt8 → Int
  | [], [] => 0
  | [], _ :: _ => -1
  | _ :: _, [] => 1
  | a :: as, b :: bs => if kb k a.toNat < kb k b.toNat then -1 else if kb k b.toNat < kb k a.toNat then 1 else kcmp k as bs

theorem kcmp_range (k : Int) : ∀ (a b : List UInt8), kcmp k a b = -1 ∨ kcmp k a b = 0 ∨ kcmp k a b = 1
  | [], [] => by simp [kcmp]
  | [], _ :: _ => by simp [kcmp]
  | _ :: _, [] => by simp [kcmp]
  | a :: as, b :: bs => by
    unfold kcmp
    split
    · simp
    · split
      · simp
      · exact kcmp_range k as bs

theorem kcmp_other (k : Int) (hk : k ≠ 0) : ∀ (a b : List UInt8), kcmp k a b = compareBytes a b
  | [], [] => rfl
  | [], _ :: _ => rfl
  | _ :: _, [] => rfl
  | a :: as, b :: bs => by
    unfold kcmp compareBytes
    rw [kcmp_other k hk as bs]
    simp only [kb, if_neg hk, UInt8.lt_iff_toNat_lt]

/-- Below, then not above: below. -/
theorem kcmp_trans (k : Int) : ∀ (a b c : List UInt8), kcmp k a b < 0 → kcmp k b c ≤ 0 → kcmp k a c < 0
  | [], [], _, h, _ => by simp [kcmp] at h
  | [], _ :: _, [], _, h' => by simp [kcmp] at h'
  | [], _ :: _, _ :: _, _, _ => by simp [kcmp]
  | _ :: _, [], _, h, _ => by simp [kcmp] at h
  | _ :: _, _ :: _, [], _, h' => by simp [kcmp] at h'
  | x :: a, y :: b, z :: c, h, h' => by
    unfold kcmp at h h' ⊢
    by_cases h1 : kb k x.toNat < kb k y.toNat
    · by_cases h2 : kb k y.toNat < kb k z.toNat
      · rw [if_pos (by omega)]; decide
      · rw [if_neg h2] at h'
        by_cases h3 : kb k z.toNat < kb k y.toNat
        · rw [if_pos h3] at h'; omega
        · rw [if_pos (by omega)]; decide
    · rw [if_neg h1] at h
      by_cases h4 : kb k y.toNat < kb k x.toNat
      · rw [if_pos h4] at h; omega
      · rw [if_neg h4] at h
        by_cases h2 : kb k y.toNat < kb k z.toNat
        · rw [if_pos (by omega)]; decide
        · rw [if_neg h2] at h'
          by_cases h3 : kb k z.toNat < kb k y.toNat
          · rw [if_pos h3] at h'; omega
          · rw [if_neg h3] at h'
            rw [if_neg (by omega), if_neg (by omega)]
            exact kcmp_trans k a b c h h'

/-- What stands in the index's place: the texts as bytes. -/
def at_ (ss : List (List UInt8)) (i : Nat) : List UInt8 := ss.getD i []
def Up (k : Int) (ss : List (List UInt8)) : Prop := ∀ i j, i < j → j < ss.length → kcmp k (at_ ss i) (at_ ss j) < 0

def hit (k : Int) (ss : List (List UInt8)) (w : List UInt8) : Bool := ss.any fun t => kcmp k t w == 0
def mis (k : Int) (ss : List (List UInt8)) (w : List UInt8) : Bool := decide (1 < ss.length) || (ss.length == 1 && !(kcmp k (at_ ss 0) w == 0))
def one (gn : Bool) (gk : Int) (t w : List UInt8) (wk : Int) (wn : Bool) : Bool :=
  bif gk == wk then (kcmp gk t w == 0) == (gn == wn) else gn != wn
def grp (gn : Bool) (gk : Int) (ss : List (List UInt8)) (w : List UInt8) (wk : Int) (wn : Bool) : Bool := ss.any fun t => one gn gk t w wk wn
def mat (gn : Bool) (gk : Int) (ss : List (List UInt8)) (w : List UInt8) (wk : Int) (wn : Bool) : Bool :=
  bif gk == wk then (bif gn == wn then hit gk ss w else mis gk ss w) else gn != wn
/-- The neighbours rise. -/
def ups (k : Int) (ss : List (List UInt8)) : Bool := (List.range (ss.length - 1)).all fun i => decide (kcmp k (at_ ss i) (at_ ss (i + 1)) < 0)

theorem up_of_ups (k : Int) (ss : List (List UInt8)) (h : ups k ss = true) : Up k ss := by
  have h' : ∀ i, i + 1 < ss.length → kcmp k (at_ ss i) (at_ ss (i + 1)) < 0 := by
    intro i hi
    have := List.all_eq_true.1 h i (List.mem_range.2 (by omega))
    simpa using this
  intro i j hij hj
  obtain ⟨d, rfl⟩ : ∃ d, j = i + 1 + d := ⟨j - i - 1, by omega⟩
  clear hij
  induction d with
  | zero => exact h' i hj
  | succ d ih =>
    have h1 := ih (by omega)
    have h2 := h' (i + 1 + d) (by omega)
    exact kcmp_trans k _ _ _ h1 (by rw [show i + 1 + (d + 1) = i + 1 + d + 1 by omega]; omega)

theorem at_mem (ss : List (List UInt8)) (i : Nat) (h : i < ss.length) : at_ ss i ∈ ss := by
  unfold at_; rw [List.getD_eq_getElem?_getD, List.getElem?_eq_getElem h]; exact List.getElem_mem h
theorem mem_at (ss : List (List UInt8)) (t : List UInt8) (h : t ∈ ss) : ∃ i, i < ss.length ∧ at_ ss i = t := by
  obtain ⟨i, hi, e⟩ := List.getElem_of_mem h
  exact ⟨i, hi, by unfold at_; rw [List.getD_eq_getElem?_getD, List.getElem?_eq_getElem hi]; exact e⟩

theorem any_at (ss : List (List UInt8)) (p : List UInt8 → Bool) : ss.any p = true ↔ ∃ i, i < ss.length ∧ p (at_ ss i) = true := by
  rw [List.any_eq_true]
  constructor
  · rintro ⟨t, ht, hp⟩
    obtain ⟨i, hi, rfl⟩ := mem_at ss t ht
    exact ⟨i, hi, hp⟩
  · rintro ⟨i, hi, hp⟩
    exact ⟨_, at_mem ss i hi, hp⟩

theorem two_differ (k : Int) (a b w : List UInt8) (h : kcmp k a b < 0) (h1 : kcmp k a w = 0) (h2 : kcmp k b w = 0) : False := by
  have := kcmp_trans k a b w h (by omega)
  omega

/-- A group that rises matches w just where some value of it does. -/
theorem mat_eq (gn : Bool) (gk : Int) (ss : List (List UInt8)) (w : List UInt8) (wk : Int) (wn : Bool) (hne : 0 < ss.length) (hu : Up gk ss) :
    mat gn gk ss w wk wn = grp gn gk ss w wk wn := by
  unfold mat grp one
  cases hk : gk == wk
  · simp only [cond_false]
    rw [Bool.eq_iff_iff, any_at]
    constructor
    · intro h; exact ⟨0, hne, h⟩
    · rintro ⟨i, _, h⟩; exact h
  · simp only [cond_true]
    cases hn : gn == wn
    · simp only [cond_false]
      rw [Bool.eq_iff_iff, any_at]
      unfold mis
      constructor
      · intro h
        by_cases h1 : 1 < ss.length
        · by_cases h2 : kcmp gk (at_ ss 0) w = 0
          · refine ⟨1, h1, ?_⟩
            have h3 := hu 0 1 (by omega) h1
            have : kcmp gk (at_ ss 1) w ≠ 0 := fun h4 => two_differ gk _ _ w h3 h2 h4
            simpa using this
          · exact ⟨0, hne, by simpa using h2⟩
        · have e : ss.length = 1 := by omega
          refine ⟨0, hne, ?_⟩
          simp [e] at h
          simpa using h
      · rintro ⟨i, hi, h⟩
        by_cases h1 : 1 < ss.length
        · simp [h1]
        · have e : ss.length = 1 := by omega
          have : i = 0 := by omega
          subst this
          simp [e]
          simpa using h
    · simp only [cond_true]
      unfold hit
      congr 1
      funext t
      cases (kcmp gk t w == 0) <;> rfl

/-- One more text, at whatever place. -/
theorem grp_insert (gn : Bool) (gk : Int) (ss : List (List UInt8)) (w : List UInt8) (wk : Int) (wn : Bool) (m : Nat) (t : List UInt8) :
    grp gn gk (ss.take m ++ t :: ss.drop m) w wk wn = (grp gn gk ss w wk wn || one gn gk t w wk wn) := by
  unfold grp
  rw [List.any_append, List.any_cons]
  conv => rhs; rw [← List.take_append_drop m ss, List.any_append]
  cases (List.take m ss).any fun t => one gn gk t w wk wn <;> cases one gn gk t w wk wn <;> cases (List.drop m ss).any fun t => one gn gk t w wk wn <;> rfl

theorem at_ins_lt (ss : List (List UInt8)) (m i : Nat) (t : List UInt8) (hm : m ≤ ss.length) (h : i < m) : at_ (ss.take m ++ t :: ss.drop m) i = at_ ss i := by
  unfold at_
  rw [List.getD_eq_getElem?_getD, List.getD_eq_getElem?_getD, List.getElem?_append_left (by rw [List.length_take]; omega), List.getElem?_take_of_lt h]
theorem at_ins_gt (ss : List (List UInt8)) (m i : Nat) (t : List UInt8) (hm : m ≤ ss.length) (h : m ≤ i) : at_ (ss.take m ++ t :: ss.drop m) (i + 1) = at_ ss i := by
  unfold at_
  rw [List.getD_eq_getElem?_getD, List.getD_eq_getElem?_getD, List.getElem?_append_right (by rw [List.length_take]; omega), List.length_take, show i + 1 - min m ss.length = (i - m) + 1 by omega, List.getElem?_cons_succ, List.getElem?_drop]
  congr 2; omega
theorem len_ins (ss : List (List UInt8)) (m : Nat) (t : List UInt8) (hm : m ≤ ss.length) : (ss.take m ++ t :: ss.drop m).length = ss.length + 1 := by
  rw [List.length_append, List.length_cons, List.length_take, List.length_drop]; omega

/-- Without the new text the others still rise. -/
theorem up_without (k : Int) (ss : List (List UInt8)) (m : Nat) (t : List UInt8) (hm : m ≤ ss.length) (h : Up k (ss.take m ++ t :: ss.drop m)) : Up k ss := by
  intro i j hij hj
  have hl := len_ins ss m t hm
  by_cases h1 : j < m
  · have := h i j hij (by omega)
    rwa [at_ins_lt ss m i t hm (by omega), at_ins_lt ss m j t hm h1] at this
  · by_cases h2 : i < m
    · have := h i (j + 1) (by omega) (by omega)
      rwa [at_ins_lt ss m i t hm h2, at_ins_gt ss m j t hm (by omega)] at this
    · have := h (i + 1) (j + 1) (by omega) (by omega)
      rwa [at_ins_gt ss m i t hm (by omega), at_ins_gt ss m j t hm (by omega)] at this

/-- THE LAW, plain. -/
theorem law (gn : Bool) (gk : Int) (ss : List (List UInt8)) (w : List UInt8) (wk : Int) (wn : Bool) (m : Nat) (t : List UInt8) (hne : 0 < ss.length) (hm : m ≤ ss.length)
    (hu : ups gk (ss.take m ++ t :: ss.drop m) = true) :
    Up gk ss ∧ Up gk (ss.take m ++ t :: ss.drop m) ∧ mat gn gk ss w wk wn = grp gn gk ss w wk wn ∧ mat gn gk (ss.take m ++ t :: ss.drop m) w wk wn = (mat gn gk ss w wk wn || one gn gk t w wk wn) := by
  have h1 := up_of_ups _ _ hu
  have h2 := up_without gk ss m t hm h1
  have e1 := mat_eq gn gk ss w wk wn hne h2
  have e2 := mat_eq gn gk _ w wk wn (by rw [len_ins ss m t hm]; omega) h1
  refine ⟨h2, h1, e1, ?_⟩
  rw [e2, grp_insert, e1]

/-- What the search by halves finds. -/
theorem hit_at (k : Int) (ss : List (List UInt8)) (w : List UInt8) (n : Nat) (hu : Up k ss) (h1 : ∀ i, i < n → i < ss.length → kcmp k (at_ ss i) w < 0) (h2 : ∀ i, n ≤ i → i < ss.length → ¬ kcmp k (at_ ss i) w < 0) :
    hit k ss w = (decide (n < ss.length) && (kcmp k (at_ ss n) w == 0)) := by
  unfold hit
  rw [Bool.eq_iff_iff, any_at]
  simp only [Bool.and_eq_true, decide_eq_true_eq, beq_iff_eq]
  constructor
  · rintro ⟨i, hi, e⟩
    have hn : n ≤ i := by
      rcases Nat.lt_or_ge i n with h | h
      · have := h1 i h hi; omega
      · exact h
    rcases Nat.lt_or_ge n i with h | h
    · exfalso
      have := kcmp_trans k _ _ w (hu n i h hi) (by omega)
      exact h2 n (Nat.le_refl _) (by omega) this
    · have : i = n := by omega
      subst this
      exact ⟨hi, e⟩
  · rintro ⟨h, e⟩
    exact ⟨n, h, e⟩

end Go.Proofs.Qxb6614662a.Pl
