import Derived.Test.Qxb6615102aOrderPlain
namespace Go.Proofs.Qxb6615102a
set_option linter.unusedVariables false

/-- Where v stands among the first p of P; -1 where it does not. -/
def posF (P : List Nat) (p v : Nat) : Int := match (List.range p).find? (fun i => P.getD i 0 == v) with
  | some i => (i : Int)
  | none => -1
theorem posF_out (P : List Nat) (p v : Nat) (h : ∀ i, i < p → P.getD i 0 ≠ v) : posF P p v = -1 := by
  unfold posF
  have : (List.range p).find? (fun i => P.getD i 0 == v) = none := by
    rw [List.find?_eq_none]
    intro i hi
    have := h i (List.mem_range.1 hi)
    simpa using this
  rw [this]
theorem nodup_getD {P : List Nat} (h : P.Nodup) {i j : Nat} (hi : i < P.length) (hj : j < P.length) (e : P.getD i 0 = P.getD j 0) : i = j := by
  rw [List.getD_eq_getElem?_getD, List.getD_eq_getElem?_getD, List.getElem?_eq_getElem hi, List.getElem?_eq_getElem hj, Option.getD_some, Option.getD_some] at e
  rw [List.nodup_iff_pairwise_ne, List.pairwise_iff_getElem] at h
  rcases Nat.lt_trichotomy i j with h1 | h1 | h1
  · exact absurd e (h i j hi hj h1)
  · exact h1
  · exact absurd e.symm (h j i hj hi h1)
theorem posF_in {P : List Nat} (hn : P.Nodup) (p i : Nat) (hi : i < p) (hp : p ≤ P.length) : posF P p (P.getD i 0) = (i : Int) := by
  unfold posF
  cases hf : (List.range p).find? (fun j => P.getD j 0 == P.getD i 0) with
  | none =>
    rw [List.find?_eq_none] at hf
    have := hf i (List.mem_range.2 hi)
    simp at this
  | some j =>
    have h1 := List.find?_some hf
    have h2 := List.mem_range.1 (List.mem_of_find?_eq_some hf)
    have e : P.getD j 0 = P.getD i 0 := by simpa using h1
    have := nodup_getD hn (by omega) (by omega) e
    simp [this]
theorem posF_zero (P : List Nat) (v : Nat) : posF P 0 v = -1 := posF_out P 0 v (fun i hi => absurd hi (Nat.not_lt_zero i))
theorem posF_new {P : List Nat} (hn : P.Nodup) (p : Nat) (hp : p < P.length) : posF P p (P.getD p 0) = -1 := posF_out P p _ (fun i hi e => by
  have := nodup_getD hn (by omega) hp e
  omega)
theorem posF_step {P : List Nat} (hn : P.Nodup) (p v : Nat) (hp : p < P.length) : (if v = P.getD p 0 then (p : Int) else posF P p v) = posF P (p + 1) v := by
  by_cases e : v = P.getD p 0
  · subst e
    rw [if_pos rfl, posF_in hn (p + 1) p (by omega) (by omega)]
  · rw [if_neg e]
    by_cases h : ∃ i, i < p ∧ P.getD i 0 = v
    · obtain ⟨i, hi, rfl⟩ := h
      rw [posF_in hn p i hi (by omega), posF_in hn (p + 1) i (by omega) (by omega)]
    · have h' : ∀ i, i < p → P.getD i 0 ≠ v := fun i hi e' => h ⟨i, hi, e'⟩
      rw [posF_out P p v h', posF_out P (p + 1) v (fun i hi e' => by
        rcases Nat.lt_or_ge i p with h1 | h1
        · exact h' i h1 e'
        · have : i = p := by omega
          subst this; exact e e'.symm)]

/-- What has been found of the first t dependencies: 'ready' and 'placed'. -/
structure Rdy (P : List Nat) (l : List Nat) (rd : Nat) (pl : Bool) : Prop where
  le : rd ≤ P.length
  all : ∀ u, u ∈ l → ∀ i, i < P.length → P.getD i 0 = u → i + 1 ≤ rd
  some_ : rd = 0 ∨ ∃ u i, u ∈ l ∧ i < P.length ∧ P.getD i 0 = u ∧ rd = i + 1
  placed : pl = true ↔ ∀ u, u ∈ l → u ∈ P

theorem rdy_nil (P : List Nat) : Rdy P [] 0 true := ⟨Nat.zero_le _, fun u hu => absurd hu List.not_mem_nil, Or.inl rfl, ⟨fun _ u hu => absurd hu List.not_mem_nil, fun _ => rfl⟩⟩
theorem rdy_out {P l : List Nat} {rd : Nat} {pl : Bool} (h : Rdy P l rd pl) (u : Nat) (hu : u ∉ P) : Rdy P (l ++ [u]) rd false := by
  refine ⟨h.le, fun x hx i hi e => ?_, ?_, ⟨fun e => Bool.noConfusion e, fun hall => absurd (hall u (by simp)) hu⟩⟩
  · rcases List.mem_append.1 hx with h1 | h1
    · exact h.all x h1 i hi e
    · rw [List.mem_singleton] at h1
      subst h1
      exact absurd (e ▸ getD_mem P i hi) hu
  · rcases h.some_ with h1 | ⟨x, i, h1, h2⟩
    · exact Or.inl h1
    · exact Or.inr ⟨x, i, List.mem_append_left _ h1, h2⟩
theorem rdy_in {P l : List Nat} {rd : Nat} {pl : Bool} (hn : P.Nodup) (h : Rdy P l rd pl) (i : Nat) (hi : i < P.length) : Rdy P (l ++ [P.getD i 0]) (if rd < i + 1 then i + 1 else rd) pl := by
  have hmem := getD_mem P i hi
  refine ⟨by have := h.le; split <;> omega, fun x hx j hj e => ?_, ?_, ?_⟩
  · rcases List.mem_append.1 hx with h1 | h1
    · have := h.all x h1 j hj e
      split <;> omega
    · rw [List.mem_singleton] at h1
      subst h1
      have := nodup_getD hn hj hi e
      split <;> omega
  · by_cases hc : rd < i + 1
    · rw [if_pos hc]
      exact Or.inr ⟨P.getD i 0, i, by simp, hi, rfl, rfl⟩
    · rw [if_neg hc]
      rcases h.some_ with h1 | ⟨x, j, h1, h2⟩
      · exact Or.inl h1
      · exact Or.inr ⟨x, j, List.mem_append_left _ h1, h2⟩
  · rw [h.placed]
    constructor
    · intro hall x hx
      rcases List.mem_append.1 hx with h1 | h1
      · exact hall x h1
      · rw [List.mem_singleton] at h1; rw [h1]; exact hmem
    · intro hall x hx
      exact hall x (List.mem_append_left _ hx)

/-- The law's three checks, of a number that stands in the run .. -/
theorem low_in {n : Nat} {D : Nat → List Nat} {P : List Nat} (h : Done n D P) (p : Nat) (hp : p < P.length) {rd : Nat} {pl : Bool} (hr : Rdy P (D (P.getD p 0)) rd pl) :
    pl = true ∧ rd ≤ p ∧ ∀ q, rd ≤ q → q < p → P.getD q 0 ≤ P.getD p 0 := by
  have hnd := run_nodup n D P h.1
  have hl := h.1 p hp
  have hcl := run_closed n D P h.1 (P.getD p 0) (getD_mem P p hp)
  have hdep : ∀ u, u ∈ D (P.getD p 0) → ∀ i, i < P.length → P.getD i 0 = u → i < p := by
    intro u hu i hi e
    obtain ⟨j, hj, e2⟩ := mem_getD (P.take p) u (hl.1.2.2 u hu)
    rw [List.length_take] at hj
    rw [List.getD_eq_getElem?_getD, List.getElem?_take_of_lt (by omega), ← List.getD_eq_getElem?_getD] at e2
    have := nodup_getD hnd hi (by omega) (e.trans e2.symm)
    omega
  refine ⟨hr.placed.2 hcl, ?_, fun q hq1 hq2 => ?_⟩
  · rcases hr.some_ with h1 | ⟨u, i, h1, h2, h3, h4⟩
    · omega
    · have := hdep u h1 i h2 h3
      omega
  · have hq := h.1 q (by omega)
    refine hq.2 _ ⟨hl.1.1, ?_, fun u hu => ?_⟩
    · intro hm
      obtain ⟨j, hj, e⟩ := mem_getD (P.take q) _ hm
      rw [List.length_take] at hj
      rw [List.getD_eq_getElem?_getD, List.getElem?_take_of_lt (by omega), ← List.getD_eq_getElem?_getD] at e
      have := nodup_getD hnd (by omega) hp e
      omega
    · obtain ⟨i, hi, e⟩ := mem_getD P u (hcl u hu)
      have h1 := hr.all u hu i hi e
      rw [← e]
      exact getD_mem_take P i q (by omega) hi
/-- .. and of one that does not. -/
theorem low_out {n : Nat} {D : Nat → List Nat} {P : List Nat} (h : Done n D P) (v : Nat) (hv : v < n) (hn : v ∉ P) {rd : Nat} {pl : Bool} (hr : Rdy P (D v) rd pl) : pl = false := by
  rw [Bool.eq_false_iff]
  intro e
  exact h.2 v ⟨hv, hn, hr.placed.1 e⟩

end Go.Proofs.Qxb6615102a
