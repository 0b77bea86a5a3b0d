import Derived.KernelRfl
namespace Go.Proofs.Qxb6615102a

/-! ### the lowest-first order, as a run: each time the least of those that are ready -/
def Ready (n : Nat) (D : Nat → List Nat) (P : List Nat) (k : Nat) : Prop := k < n ∧ k ∉ P ∧ ∀ j, j ∈ D k → j ∈ P
def Least (n : Nat) (D : Nat → List Nat) (P : List Nat) (k : Nat) : Prop := Ready n D P k ∧ ∀ m, Ready n D P m → k ≤ m
def IsRun (n : Nat) (D : Nat → List Nat) (P : List Nat) : Prop := ∀ i, i < P.length → Least n D (P.take i) (P.getD i 0)
def Done (n : Nat) (D : Nat → List Nat) (P : List Nat) : Prop := IsRun n D P ∧ ∀ k, ¬ Ready n D P k

theorem run_nil (n : Nat) (D : Nat → List Nat) : IsRun n D [] := fun i hi => absurd hi (Nat.not_lt_zero i)
theorem run_snoc (n : Nat) (D : Nat → List Nat) (P : List Nat) (k : Nat) (h : IsRun n D P) (hk : Least n D P k) : IsRun n D (P ++ [k]) := by
  intro i hi
  rw [List.length_append, List.length_singleton] at hi
  rcases Nat.lt_or_ge i P.length with h1 | h1
  · rw [List.take_append_of_le_length (by omega), List.getD_eq_getElem?_getD, List.getElem?_append_left h1, ← List.getD_eq_getElem?_getD]
    exact h i h1
  · have e : i = P.length := by omega
    subst e
    rw [List.take_left, List.getD_eq_getElem?_getD, List.getElem?_append_right (Nat.le_refl _), Nat.sub_self]
    exact hk
theorem run_take (n : Nat) (D : Nat → List Nat) (P : List Nat) (h : IsRun n D P) (m : Nat) : IsRun n D (P.take m) := by
  intro i hi
  rw [List.length_take] at hi
  rw [List.take_take, show min i m = i by omega, List.getD_eq_getElem?_getD, List.getElem?_take_of_lt (by omega), ← List.getD_eq_getElem?_getD]
  exact h i (by omega)

theorem getD_mem (P : List Nat) (i : Nat) (h : i < P.length) : P.getD i 0 ∈ P := by
  rw [List.getD_eq_getElem?_getD, List.getElem?_eq_getElem h]; exact List.getElem_mem h
theorem mem_getD (P : List Nat) (x : Nat) (h : x ∈ P) : ∃ i, i < P.length ∧ P.getD i 0 = x := by
  obtain ⟨i, hi, e⟩ := List.getElem_of_mem h
  exact ⟨i, hi, by rw [List.getD_eq_getElem?_getD, List.getElem?_eq_getElem hi]; exact e⟩
theorem getD_mem_take (P : List Nat) (i m : Nat) (h : i < m) (hi : i < P.length) : P.getD i 0 ∈ P.take m := by
  have := getD_mem (P.take m) i (by rw [List.length_take]; omega)
  rwa [List.getD_eq_getElem?_getD, List.getElem?_take_of_lt h, ← List.getD_eq_getElem?_getD] at this

theorem run_lt (n : Nat) (D : Nat → List Nat) (P : List Nat) (h : IsRun n D P) (x : Nat) (hx : x ∈ P) : x < n := by
  obtain ⟨i, hi, rfl⟩ := mem_getD P x hx
  exact (h i hi).1.1
theorem run_closed (n : Nat) (D : Nat → List Nat) (P : List Nat) (h : IsRun n D P) (x : Nat) (hx : x ∈ P) : ∀ j, j ∈ D x → j ∈ P := by
  obtain ⟨i, hi, rfl⟩ := mem_getD P x hx
  intro j hj
  exact List.mem_of_mem_take ((h i hi).1.2.2 j hj)
theorem run_nodup (n : Nat) (D : Nat → List Nat) (P : List Nat) (h : IsRun n D P) : P.Nodup := by
  rw [List.nodup_iff_pairwise_ne, List.pairwise_iff_getElem]
  intro i j hi hj hij e
  have h1 := (h j hj).1.2.1
  rw [List.getD_eq_getElem?_getD, List.getElem?_eq_getElem hj, Option.getD_some] at h1
  apply h1
  rw [← e]
  have := getD_mem_take P i j hij hi
  rwa [List.getD_eq_getElem?_getD, List.getElem?_eq_getElem hi, Option.getD_some] at this

theorem nodup_len : ∀ (n : Nat) (l : List Nat), l.Nodup → (∀ x, x ∈ l → x < n) → l.length ≤ n
  | 0, l, _, h => by
    cases l with
    | nil => simp
    | cons a l => exact absurd (h a List.mem_cons_self) (Nat.not_lt_zero a)
  | n + 1, l, hd, h => by
    by_cases hn : n ∈ l
    · obtain ⟨a, b, rfl⟩ := List.append_of_mem hn
      have hp : (a ++ n :: b).Perm (n :: (a ++ b)) := List.perm_middle
      have hd' := (hp.nodup_iff.1 hd)
      rw [List.nodup_cons] at hd'
      have := nodup_len n (a ++ b) hd'.2 (fun x hx => by
        have h1 := h x (hp.mem_iff.2 (List.mem_cons_of_mem _ hx))
        have h2 : x ≠ n := fun e => hd'.1 (e ▸ hx)
        omega)
      rw [hp.length_eq, List.length_cons]
      omega
    · have := nodup_len n l hd (fun x hx => by
        have h1 := h x hx
        have h2 : x ≠ n := fun e => hn (e ▸ hx)
        omega)
      omega

/-- Two runs that have come to their end are one. -/
theorem done_unique (n : Nat) (D : Nat → List Nat) (P Q : List Nat) (hP : Done n D P) (hQ : Done n D Q) : P = Q := by
  have key : ∀ i, i ≤ P.length → i ≤ Q.length → P.take i = Q.take i := by
    intro i
    induction i with
    | zero => intro _ _; simp
    | succ i ih =>
      intro h1 h2
      have e := ih (by omega) (by omega)
      have a := hP.1 i (by omega)
      have b := hQ.1 i (by omega)
      rw [e] at a
      have e2 : P.getD i 0 = Q.getD i 0 := Nat.le_antisymm (a.2 _ b.1) (b.2 _ a.1)
      have f : ∀ (l : List Nat), i < l.length → l.take (i + 1) = l.take i ++ [l.getD i 0] := by
        intro l hl
        rw [List.take_succ_eq_append_getElem hl, List.getD_eq_getElem?_getD, List.getElem?_eq_getElem hl]; rfl
      rw [f P (by omega), f Q (by omega), e, e2]
  rcases Nat.lt_trichotomy P.length Q.length with h | h | h
  · have e := key P.length (Nat.le_refl _) (by omega)
    rw [List.take_length] at e
    have b := (hQ.1 P.length h).1
    rw [← e] at b
    exact absurd b (hP.2 _)
  · have e := key P.length (Nat.le_refl _) (by omega)
    rw [List.take_length, h, List.take_length] at e
    exact e
  · have e := key Q.length (by omega) (Nat.le_refl _)
    rw [List.take_length] at e
    have b := (hP.1 Q.length h).1
    rw [e] at b
    exact absurd b (hQ.2 _)

/-! ### how many a number still waits for; who waits for a number -/
def cnt (D : Nat → List Nat) (k : Nat) (P : List Nat) : Nat := ((D k).filter fun j => decide (j ∉ P)).length
theorem cnt_nil (D : Nat → List Nat) (k : Nat) : cnt D k [] = (D k).length := by unfold cnt; simp
theorem cnt_zero (D : Nat → List Nat) (k : Nat) (P : List Nat) : cnt D k P = 0 ↔ ∀ j, j ∈ D k → j ∈ P := by
  unfold cnt
  rw [List.length_eq_zero_iff, List.filter_eq_nil_iff]
  simp
theorem filter_split (l : List Nat) (P : List Nat) (a : Nat) (ha : a ∉ P) : (l.filter fun j => decide (j ∉ P)).length = (l.filter fun j => decide (j ∉ P ++ [a])).length + l.count a := by
  induction l with
  | nil => rfl
  | cons x l ih =>
    by_cases hx : x = a
    · subst hx
      rw [List.filter_cons_of_pos (by simpa using ha), List.filter_cons_of_neg (by simp), List.count_cons_self, List.length_cons, ih]
      omega
    · by_cases hp : x ∈ P
      · rw [List.filter_cons_of_neg (by simpa using hp), List.filter_cons_of_neg (by simp [hp]), List.count_cons_of_ne (by simpa using hx), ih]
      · rw [List.filter_cons_of_pos (by simpa using hp), List.filter_cons_of_pos (by simp [hp, hx]), List.count_cons_of_ne (by simpa using hx), List.length_cons, List.length_cons, ih]
        omega
theorem cnt_snoc (D : Nat → List Nat) (k : Nat) (P : List Nat) (a : Nat) (ha : a ∉ P) : cnt D k P = cnt D k (P ++ [a]) + (D k).count a := filter_split (D k) P a ha

/-- Who waits for j, among the first i, each as often as it says so. -/
def nx (D : Nat → List Nat) (i j : Nat) : List Nat := (List.range i).flatMap fun a => List.replicate ((D a).count j) a
theorem nx_succ (D : Nat → List Nat) (i j : Nat) : nx D (i + 1) j = nx D i j ++ List.replicate ((D i).count j) i := by
  unfold nx
  rw [List.range_succ, List.flatMap_append]
  simp
theorem nx_count_ge (D : Nat → List Nat) (j k : Nat) : ∀ i, i ≤ k → (nx D i j).count k = 0
  | 0, _ => rfl
  | i + 1, h => by
    rw [nx_succ, List.count_append, nx_count_ge D j k i (by omega), List.count_replicate, if_neg (by simp; omega)]
theorem nx_count (D : Nat → List Nat) (j k : Nat) : ∀ i, k < i → (nx D i j).count k = (D k).count j
  | 0, h => absurd h (Nat.not_lt_zero k)
  | i + 1, h => by
    rw [nx_succ, List.count_append, List.count_replicate]
    by_cases e : k = i
    · subst e
      rw [nx_count_ge D j k k (Nat.le_refl _)]; simp
    · rw [nx_count D j k i (by omega), if_neg (by simp; omega)]; rfl
theorem nx_lt (D : Nat → List Nat) (i j x : Nat) (h : x ∈ nx D i j) : x < i := by
  unfold nx at h
  obtain ⟨a, ha, hx⟩ := List.mem_flatMap.1 h
  rw [List.eq_of_mem_replicate hx]
  exact List.mem_range.1 ha
theorem nx_len (D : Nat → List Nat) (j : Nat) : ∀ i, (nx D i j).length = ((List.range i).map fun a => (D a).count j).sum
  | 0 => rfl
  | i + 1 => by rw [nx_succ, List.length_append, nx_len D j i, List.length_replicate, List.range_succ, List.map_append, List.sum_append]; simp

def sumLen (D : Nat → List Nat) (i : Nat) : Nat := ((List.range i).map fun a => (D a).length).sum
theorem sumLen_succ (D : Nat → List Nat) (i : Nat) : sumLen D (i + 1) = sumLen D i + (D i).length := by
  unfold sumLen; rw [List.range_succ, List.map_append, List.sum_append]; simp
theorem sumLen_mono (D : Nat → List Nat) (i : Nat) : ∀ m, i ≤ m → sumLen D i ≤ sumLen D m
  | 0, h => by rw [show i = 0 by omega]; exact Nat.le_refl _
  | m + 1, h => by
    rcases Nat.lt_or_ge i (m + 1) with h1 | h1
    · have := sumLen_mono D i m (by omega)
      rw [sumLen_succ]; omega
    · rw [show i = m + 1 by omega]; exact Nat.le_refl _
theorem len_le_sum (D : Nat → List Nat) (i m : Nat) (h : i < m) : (D i).length ≤ sumLen D m := by
  have := sumLen_mono D (i + 1) m h
  rw [sumLen_succ] at this; omega
theorem nx_le (D : Nat → List Nat) (j : Nat) : ∀ i, (nx D i j).length ≤ sumLen D i
  | 0 => Nat.zero_le _
  | i + 1 => by
    rw [nx_succ, List.length_append, List.length_replicate, sumLen_succ]
    have := nx_le D j i
    have := List.count_le_length (a := j) (l := D i)
    omega

/-! ### what a heap holds -/
def Holds (zs : List Int) (S : Nat → Prop) : Prop := zs.Nodup ∧ ∀ x : Int, x ∈ zs ↔ ∃ k : Nat, (k : Int) = x ∧ S k
theorem holds_nil (S : Nat → Prop) (h : ∀ k, ¬ S k) : Holds [] S := ⟨List.nodup_nil, fun _ => ⟨fun h => absurd h List.not_mem_nil, fun ⟨k, _, hs⟩ => absurd hs (h k)⟩⟩
theorem holds_congr {zs : List Int} {S T : Nat → Prop} (h : Holds zs S) (e : ∀ k, S k ↔ T k) : Holds zs T :=
  ⟨h.1, fun x => (h.2 x).trans ⟨fun ⟨k, a, b⟩ => ⟨k, a, (e k).1 b⟩, fun ⟨k, a, b⟩ => ⟨k, a, (e k).2 b⟩⟩⟩
theorem holds_push {zs zs' : List Int} {S : Nat → Prop} {k : Nat} (h : Holds zs S) (hk : ¬ S k) (hp : zs'.Perm ((k : Int) :: zs)) : Holds zs' (fun m => S m ∨ m = k) := by
  refine ⟨hp.nodup_iff.2 (List.nodup_cons.2 ⟨fun hm => ?_, h.1⟩), fun x => ?_⟩
  · obtain ⟨m, e, hs⟩ := (h.2 _).1 hm
    have : m = k := by omega
    exact hk (this ▸ hs)
  · rw [hp.mem_iff, List.mem_cons, h.2]
    constructor
    · rintro (rfl | ⟨m, e, hs⟩)
      · exact ⟨k, rfl, Or.inr rfl⟩
      · exact ⟨m, e, Or.inl hs⟩
    · rintro ⟨m, e, hs | rfl⟩
      · exact Or.inr ⟨m, e, hs⟩
      · exact Or.inl e.symm
theorem holds_pop {zs zs' : List Int} {S : Nat → Prop} {x : Int} (h : Holds zs S) (hp : zs.Perm (x :: zs')) (hm : ∀ y ∈ zs, x ≤ y) : ∃ k : Nat, x = (k : Int) ∧ S k ∧ (∀ m, S m → k ≤ m) ∧ Holds zs' (fun m => S m ∧ m ≠ k) := by
  obtain ⟨k, e, hs⟩ := (h.2 x).1 (hp.mem_iff.2 List.mem_cons_self)
  have hd := hp.nodup_iff.1 h.1
  rw [List.nodup_cons] at hd
  refine ⟨k, e.symm, hs, fun m hm' => ?_, hd.2, fun y => ?_⟩
  · have := hm _ ((h.2 (m : Int)).2 ⟨m, rfl, hm'⟩)
    omega
  · constructor
    · intro hy
      obtain ⟨m, em, hms⟩ := (h.2 y).1 (hp.mem_iff.2 (List.mem_cons_of_mem _ hy))
      refine ⟨m, em, hms, fun e' => hd.1 ?_⟩
      subst e'
      rwa [← e, em]
    · rintro ⟨m, em, hms, hne⟩
      have := hp.mem_iff.1 ((h.2 y).2 ⟨m, em, hms⟩)
      rcases List.mem_cons.1 this with e' | h'
      · exact absurd (by omega) hne
      · exact h'
theorem holds_len {zs : List Int} {S : Nat → Prop} {n : Nat} (h : Holds zs S) (hS : ∀ k, S k → k < n) : zs.length ≤ n := by
  have : (zs.map Int.toNat).length ≤ n := by
    refine nodup_len n _ ?_ ?_
    · rw [List.nodup_iff_pairwise_ne, List.pairwise_map]
      refine List.Pairwise.imp_of_mem ?_ (List.nodup_iff_pairwise_ne.1 h.1)
      intro a b ha hb hne e
      obtain ⟨k, ek, _⟩ := (h.2 a).1 ha
      obtain ⟨m, em, _⟩ := (h.2 b).1 hb
      omega
    · intro x hx
      obtain ⟨y, hy, rfl⟩ := List.mem_map.1 hx
      obtain ⟨k, ek, hs⟩ := (h.2 y).1 hy
      have := hS k hs
      omega
  rwa [List.length_map] at this

/-- The state in the middle of the inner loop: a has been taken; of those that wait for it the first t have been told. -/
def Mid (n : Nat) (D : Nat → List Nat) (P : List Nat) (a t k : Nat) : Prop := k < n ∧ k ∉ P ++ [a] ∧ cnt D k P = ((nx D n a).take t).count k

theorem mid_start (n : Nat) (D : Nat → List Nat) (P : List Nat) (a : Nat) (k : Nat) : (Ready n D P k ∧ k ≠ a) ↔ Mid n D P a 0 k := by
  unfold Ready Mid
  rw [List.take_zero, List.count_nil, cnt_zero]
  simp only [List.mem_append, List.mem_singleton, not_or]
  constructor
  · rintro ⟨⟨h1, h2, h3⟩, h4⟩; exact ⟨h1, ⟨h2, h4⟩, h3⟩
  · rintro ⟨h1, ⟨h2, h4⟩, h3⟩; exact ⟨⟨h1, h2, h3⟩, h4⟩
theorem mid_end (n : Nat) (D : Nat → List Nat) (P : List Nat) (a : Nat) (ha : a ∉ P) (k : Nat) : Mid n D P a (nx D n a).length k ↔ Ready n D (P ++ [a]) k := by
  unfold Ready Mid
  rw [List.take_length]
  constructor
  · rintro ⟨h1, h2, h3⟩
    refine ⟨h1, h2, (cnt_zero _ _ _).1 ?_⟩
    have := cnt_snoc D k P a ha
    rw [nx_count D a k n h1] at h3
    omega
  · rintro ⟨h1, h2, h3⟩
    refine ⟨h1, h2, ?_⟩
    have := cnt_snoc D k P a ha
    rw [nx_count D a k n h1]
    have h4 := (cnt_zero _ _ _).2 h3
    omega

theorem count_take_succ (l : List Nat) (t k : Nat) (h : t < l.length) : (l.take (t + 1)).count k = (l.take t).count k + if l.getD t 0 = k then 1 else 0 := by
  rw [List.take_succ_eq_append_getElem h, List.count_append, List.getD_eq_getElem?_getD, List.getElem?_eq_getElem h, Option.getD_some, List.count_singleton]
  by_cases e : l[t] = k <;> simp [e]
theorem count_take_le (l : List Nat) (t k : Nat) : (l.take t).count k ≤ l.count k := (List.take_sublist t l).count_le k

/-- One more is told: facts on it. -/
theorem mid_step (n : Nat) (D : Nat → List Nat) (P : List Nat) (a t : Nat) (hrun : IsRun n D P) (hready : Ready n D P a) (ht : t < (nx D n a).length) :
    (nx D n a).getD t 0 < n ∧ ((nx D n a).take t).count ((nx D n a).getD t 0) < cnt D ((nx D n a).getD t 0) P ∧ ¬ Mid n D P a t ((nx D n a).getD t 0) ∧
    (∀ k, Mid n D P a (t + 1) k ↔ (Mid n D P a t k ∨ (k = (nx D n a).getD t 0 ∧ cnt D k P = ((nx D n a).take (t + 1)).count k))) := by
  have hmem := getD_mem (nx D n a) t ht
  have hlt := nx_lt D n a _ hmem
  obtain ⟨k1, hk1⟩ : ∃ k1, k1 = (nx D n a).getD t 0 := ⟨_, rfl⟩
  rw [← hk1] at hmem hlt ⊢
  have hc1 := count_take_succ (nx D n a) t k1 ht
  rw [if_pos hk1.symm] at hc1
  have hc2 := count_take_le (nx D n a) (t + 1) k1
  rw [nx_count D a k1 n hlt] at hc2
  have hsn := cnt_snoc D k1 P a hready.2.1
  have hpos : 0 < (D k1).count a := by omega
  have had : a ∈ D k1 := List.count_pos_iff.1 hpos
  have hnP : k1 ∉ P := fun h => hready.2.1 (run_closed n D P hrun k1 h a had)
  have hna : k1 ≠ a := fun e => hready.2.1 (hready.2.2 a (e ▸ had))
  refine ⟨hlt, by omega, fun hm => by have := hm.2.2; omega, fun k => ?_⟩
  have hck := count_take_succ (nx D n a) t k ht
  rw [← hk1] at hck
  by_cases e : k = k1
  · subst e
    constructor
    · intro h; exact Or.inr ⟨rfl, h.2.2⟩
    · rintro (h | ⟨_, h⟩)
      · have := h.2.2; omega
      · exact ⟨hlt, by simp [hnP, hna], h⟩
  · rw [if_neg (fun h => e h.symm)] at hck
    unfold Mid
    constructor
    · rintro ⟨h1, h2, h3⟩; exact Or.inl ⟨h1, h2, by omega⟩
    · rintro (⟨h1, h2, h3⟩ | ⟨h, _⟩)
      · exact ⟨h1, h2, by omega⟩
      · exact absurd h e

/-! ### the law: each dependency told twice, a fresh highest number with none -/
theorem fresh_last (n : Nat) (D D' : Nat → List Nat) (P : List Nat) (h : Done n D P) (hD : ∀ k, k < n → ∀ j, j ∈ D' k ↔ j ∈ D k) (hlt : ∀ k, k < n → ∀ j, j ∈ D k → j < n) (hn : D' n = []) : Done (n + 1) D' (P ++ [n]) := by
  have hr : ∀ (Q : List Nat) k, n ∉ Q → (Ready (n + 1) D' Q k ↔ (Ready n D Q k ∨ k = n)) := by
    intro Q k hQ
    unfold Ready
    by_cases e : k = n
    · subst e
      rw [hn]
      simp [hQ]
    · constructor
      · rintro ⟨h1, h2, h3⟩
        exact Or.inl ⟨by omega, h2, fun j hj => h3 j ((hD k (by omega) j).2 hj)⟩
      · rintro (⟨h1, h2, h3⟩ | h1)
        · exact ⟨by omega, h2, fun j hj => h3 j ((hD k h1 j).1 hj)⟩
        · exact absurd h1 e
  have hnP : n ∉ P := fun hm => Nat.lt_irrefl _ (run_lt n D P h.1 n hm)
  have hrun : IsRun (n + 1) D' P := by
    intro i hi
    have hnt : n ∉ P.take i := fun hm => hnP (List.mem_of_mem_take hm)
    have a := h.1 i hi
    refine ⟨(hr _ _ hnt).2 (Or.inl a.1), fun m hm => ?_⟩
    rcases (hr _ _ hnt).1 hm with h1 | h1
    · exact a.2 m h1
    · have := a.1.1; omega
  refine ⟨run_snoc _ _ _ _ hrun ⟨(hr _ _ hnP).2 (Or.inr rfl), fun m hm => ?_⟩, fun k hk => ?_⟩
  · rcases (hr _ _ hnP).1 hm with h1 | h1
    · exact absurd h1 (h.2 m)
    · omega
  · obtain ⟨h1, h2, h3⟩ := hk
    simp only [List.mem_append, List.mem_singleton, not_or] at h2
    refine h.2 k ⟨by omega, h2.1, fun j hj => ?_⟩
    have h4 := h3 j ((hD k (by omega) j).2 hj)
    rcases List.mem_append.1 h4 with h5 | h5
    · exact h5
    · have h6 := hlt k (by omega) j hj
      rw [List.mem_singleton] at h5
      omega

end Go.Proofs.Qxb6615102a
