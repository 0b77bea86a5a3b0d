import Derived.Test.Qxb6615473aConn
namespace Go.Proofs.Qxb6615473a
open Go.RowKit Go.Maps
set_option linter.unusedVariables false

/-- The state, behind the first k events, of the connection that event i has created. -/
def fin (E : Nat → Ev) (i : Nat) : Nat → Option Nat
  | 0 => some 0
  | k + 1 => if k ≤ i then some 0 else nxt (E k) (E i).id (fin E i k)
theorem fin_new (E : Nat → Ev) (i : Nat) : fin E i (i + 1) = some 0 := by rw [fin, if_pos (Nat.le_refl _)]
theorem fin_succ (E : Nat → Ev) (i k : Nat) (h : i < k) : fin E i (k + 1) = nxt (E k) (E i).id (fin E i k) := by rw [fin, if_neg (by omega)]
/-- No number is created twice. -/
def Dis (E : Nat → Ev) (N : Nat) : Prop := ∀ i j, i < j → j < N → isT tCreated (E i) = true → isT tCreated (E j) = true → (E i).id ≠ (E j).id

def sm (f : Nat → Int) : Nat → Int
  | 0 => 0
  | k + 1 => sm f k + f k
theorem sm_congr (f g : Nat → Int) : ∀ k, (∀ i, i < k → f i = g i) → sm f k = sm g k
  | 0, _ => rfl
  | k + 1, h => by rw [sm, sm, sm_congr f g k (fun i hi => h i (by omega)), h k (by omega)]
theorem sm_but (f g : Nat → Int) (j : Nat) : ∀ k, j < k → (∀ i, i < k → i ≠ j → f i = g i) → sm g k = sm f k - f j + g j
  | 0, h, _ => absurd h (Nat.not_lt_zero j)
  | k + 1, h, hh => by
    rw [sm, sm]
    by_cases e : j = k
    · subst e
      rw [sm_congr f g j (fun i hi => hh i (by omega) (by omega))]
      omega
    · rw [sm_but f g j k (by omega) (fun i hi hne => hh i (by omega) hne), hh k (by omega) (fun c => e c.symm)]
      omega
/-- The sum of g over the connections created by the first k events, as they stand there. -/
def over (E : Nat → Ev) (g : Option Nat → Int) (k m : Nat) : Int := sm (fun i => if isT tCreated (E i) = true then g (fin E i m) else 0) k

structure Inv (E : Nat → Ev) (k : Nat) (S : St) : Prop where
  lk : ∀ i, i < k → isT tCreated (E i) = true → look S.conns (E i).id = fin E i k
  no : ∀ id, (∀ i, i < k → isT tCreated (E i) = true → (E i).id ≠ id) → look S.conns id = none
  ga : ∀ s, S.ga s = over E (fun o => ind o s) k k
  sz : (size S.conns : Int) = over E one k k

theorem inv_zero (E : Nat → Ev) : Inv E 0 stZero := ⟨fun i hi => absurd hi (Nat.not_lt_zero i), fun _ _ => rfl, fun _ => rfl, rfl⟩
theorem over_step (E : Nat → Ev) (N : Nat) (hD : Dis E N) (k : Nat) (hk : k < N) (S S' : St) (h : Inv E k S) (lk' : ∀ i, i < k + 1 → isT tCreated (E i) = true → look S'.conns (E i).id = fin E i (k + 1))
    (no' : ∀ id, (∀ i, i < k + 1 → isT tCreated (E i) = true → (E i).id ≠ id) → look S'.conns id = none) (g : Option Nat → Int) (g0 : g none = 0) :
    over E g (k + 1) (k + 1) = over E g k k - g (look S.conns (E k).id) + g (look S'.conns (E k).id) := by
  unfold over
  rw [sm]
  cases hc : isT tCreated (E k)
  · simp only [Bool.false_eq_true, if_false, Int.add_zero]
    by_cases hex : ∃ i, i < k ∧ isT tCreated (E i) = true ∧ (E i).id = (E k).id
    · obtain ⟨i0, h1, h2, h3⟩ := hex
      rw [sm_but (fun i => if isT tCreated (E i) = true then g (fin E i k) else 0) _ i0 k h1 (fun i hi hne => by
        by_cases hci : isT tCreated (E i) = true
        · simp only [hci, if_true]
          rw [fin_succ E i k hi, nxt_other]
          intro c
          rcases Nat.lt_or_gt_of_ne hne with q | q
          · exact hD i i0 q (by omega) hci h2 (by rw [h3]; exact c.symm)
          · exact hD i0 i q (by omega) h2 hci (by rw [h3]; exact c)
        · simp only [hci, Bool.false_eq_true, if_false])]
      simp only [h2, if_true]
      rw [← h3, h.lk i0 h1 h2, lk' i0 (by omega) h2]
    · have hno : ∀ i, i < k → isT tCreated (E i) = true → (E i).id ≠ (E k).id := fun i hi hci e => hex ⟨i, hi, hci, e⟩
      rw [h.no _ hno, no' _ (fun i hi hci => by
        by_cases e : i = k
        · subst e; rw [hc] at hci; cases hci
        · exact hno i (by omega) hci), g0]
      rw [sm_congr _ (fun i => if isT tCreated (E i) = true then g (fin E i k) else 0) k (fun i hi => by
        by_cases hci : isT tCreated (E i) = true
        · simp only [hci, if_true]
          rw [fin_succ E i k hi, nxt_other _ _ _ (fun c => hno i hi hci c.symm)]
        · simp only [hci, Bool.false_eq_true, if_false])]
      omega
  · simp only [if_true]
    have hno : ∀ i, i < k → isT tCreated (E i) = true → (E i).id ≠ (E k).id := fun i hi hci => hD i k hi hk hci hc
    rw [h.no _ hno, g0, lk' k (by omega) hc]
    rw [sm_congr _ (fun i => if isT tCreated (E i) = true then g (fin E i k) else 0) k (fun i hi => by
      by_cases hci : isT tCreated (E i) = true
      · simp only [hci, if_true]
        rw [fin_succ E i k hi, nxt_other _ _ _ (fun c => hno i hi hci c.symm)]
      · simp only [hci, Bool.false_eq_true, if_false])]
    omega

theorem inv_evs (E : Nat → Ev) (N : Nat) (hE : ∀ i, i < N → (E i).d ≤ 9223372036854775807) (hD : Dis E N) : ∀ k, k ≤ N → Inv E k (evs E k)
  | 0, _ => inv_zero E
  | k + 1, hk => by
    have h := inv_evs E N hE hD k (by omega)
    obtain ⟨hb, ht⟩ := bd_evs E N hE k (by omega)
    have hl := obs_look (evs E k) ht (E k)
    have lk' : ∀ i, i < k + 1 → isT tCreated (E i) = true → look (evs E (k + 1)).conns (E i).id = fin E i (k + 1) := by
      intro i hi hci
      show look (obs _ _ _ _ _).conns _ = _
      rw [hl]
      by_cases e : i = k
      · subst e
        rw [fin_new]
        unfold nxt
        rw [if_pos rfl, if_pos hci]
      · rw [h.lk i (by omega) hci, fin_succ E i k (by omega)]
    have no' : ∀ id, (∀ i, i < k + 1 → isT tCreated (E i) = true → (E i).id ≠ id) → look (evs E (k + 1)).conns id = none := by
      intro id hid
      show look (obs _ _ _ _ _).conns _ = _
      rw [hl, h.no id (fun i hi hci => hid i (by omega) hci)]
      unfold nxt
      by_cases e : (E k).id = id
      · rw [if_pos e]
        cases hc : isT tCreated (E k)
        · rfl
        · exact absurd e (hid k (by omega) hc)
      · rw [if_neg e]
    have hga := obs_ga (evs E k) ht hb (E k) (fun hc => h.no _ (fun i hi hci => hD i k hi (by omega) hci hc))
    refine ⟨lk', no', fun s => ?_, ?_⟩
    · show (obs _ _ _ _ _).ga s = _
      rw [(hga s).1, h.ga s, over_step E N hD k (by omega) (evs E k) (evs E (k + 1)) h lk' no' (fun o => ind o s) rfl]
      rfl
    · show (size (obs _ _ _ _ _).conns : Int) = _
      rw [(hga 0).2, h.sz, over_step E N hD k (by omega) (evs E k) (evs E (k + 1)) h lk' no' one rfl]
      rfl
end Go.Proofs.Qxb6615473a
