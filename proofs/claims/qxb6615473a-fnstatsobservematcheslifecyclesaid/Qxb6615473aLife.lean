import Derived.Test.Qxb6615473aScript
namespace Go.Proofs.Qxb6615473a
open Go.RowKit Go.Maps
set_option linter.unusedVariables false

/-! ### which event -/
def isT (t : List UInt8) (e : Ev) : Bool := e.ty.toList == t
theorem isT_eq {t : List UInt8} {e : Ev} (h : isT t e = true) : e.ty.toList = t := by simpa [isT] using h
/-- The eight names and the rest. -/
theorem obs_cases (S : St) (e : Ev) :
    (e.ty.toList = tCreated ∧ obs S e.ty e.rs e.id e.d = { S with created := S.created + 1, conns := S.conns.put (kid e.id) (u8 0), ga := bump S.ga 0 1 }) ∨
    ((e.ty.toList = tReady ∨ e.ty.toList = tIn) ∧ obs S e.ty e.rs e.id e.d = stMove S e.id 1) ∨
    (e.ty.toList = tOut ∧ obs S e.ty e.rs e.id e.d = stAdd (stWait (stMove S e.id 2) (-1)) e.d) ∨
    (e.ty.toList = tClosed ∧ obs S e.ty e.rs e.id e.d = stTally (stDrop S e.id) e.rs) ∨
    (e.ty.toList = tStarted ∧ obs S e.ty e.rs e.id e.d = stWait S 1) ∨
    (e.ty.toList = tFailed ∧ obs S e.ty e.rs e.id e.d = stFail (stWait S (-1)) e.rs) ∨
    (e.ty.toList = tHeld ∧ obs S e.ty e.rs e.id e.d = { S with held := S.held + 1 }) ∨
    ((e.ty.toList ≠ tCreated ∧ e.ty.toList ≠ tReady ∧ e.ty.toList ≠ tIn ∧ e.ty.toList ≠ tOut ∧ e.ty.toList ≠ tClosed ∧ e.ty.toList ≠ tStarted ∧ e.ty.toList ≠ tFailed ∧ e.ty.toList ≠ tHeld) ∧ obs S e.ty e.rs e.id e.d = S) := by
  unfold obs
  simp only [beq_iff_eq]
  by_cases h1 : e.ty.toList = tCreated
  · left; exact ⟨h1, by rw [if_pos h1]⟩
  right
  rw [if_neg h1]
  by_cases h2 : e.ty.toList = tReady
  · left; exact ⟨Or.inl h2, by rw [if_pos h2]⟩
  rw [if_neg h2]
  by_cases h3 : e.ty.toList = tIn
  · left; exact ⟨Or.inr h3, by rw [if_pos h3]⟩
  right
  rw [if_neg h3]
  by_cases h4 : e.ty.toList = tOut
  · left; exact ⟨h4, by rw [if_pos h4]⟩
  right
  rw [if_neg h4]
  by_cases h5 : e.ty.toList = tClosed
  · left; exact ⟨h5, by rw [if_pos h5]⟩
  right
  rw [if_neg h5]
  by_cases h6 : e.ty.toList = tStarted
  · left; exact ⟨h6, by rw [if_pos h6]⟩
  right
  rw [if_neg h6]
  by_cases h7 : e.ty.toList = tFailed
  · left; exact ⟨h7, by rw [if_pos h7]⟩
  right
  rw [if_neg h7]
  by_cases h8 : e.ty.toList = tHeld
  · left; exact ⟨h8, by rw [if_pos h8]⟩
  right
  rw [if_neg h8]
  exact ⟨⟨h1, h2, h3, h4, h5, h6, h7, h8⟩, rfl⟩

/-! ### the counts -/
def cntT (t : List UInt8) (E : Nat → Ev) : Nat → Nat
  | 0 => 0
  | k + 1 => if isT t (E k) then cntT t E k + 1 else cntT t E k
theorem cntT_le (t : List UInt8) (E : Nat → Ev) : ∀ k, cntT t E k ≤ k
  | 0 => Nat.le_refl _
  | k + 1 => by have := cntT_le t E k; unfold cntT; split <;> omega
theorem cntT_of (t : List UInt8) (E : Nat → Ev) (k : Nat) (x : List UInt8) (h : (E k).ty.toList = x) : cntT t E (k + 1) = if x == t then cntT t E k + 1 else cntT t E k := by
  show (if isT t (E k) then _ else _) = _
  unfold isT
  rw [h]
theorem move_rest (S : St) (id : Int) (tg : Nat) : (stMove S id tg).created = S.created ∧ (stMove S id tg).held = S.held ∧ (stMove S id tg).waiting = S.waiting ∧ (stMove S id tg).closed = S.closed ∧ (stMove S id tg).failed = S.failed := by
  unfold stMove; split <;> exact ⟨rfl, rfl, rfl, rfl, rfl⟩
theorem drop_rest (S : St) (id : Int) : (stDrop S id).created = S.created ∧ (stDrop S id).held = S.held ∧ (stDrop S id).waiting = S.waiting ∧ (stDrop S id).closed = S.closed ∧ (stDrop S id).failed = S.failed := by
  unfold stDrop; split <;> exact ⟨rfl, rfl, rfl, rfl, rfl⟩
theorem counts (E : Nat → Ev) : ∀ k, (evs E k).created = cntT tCreated E k ∧ (evs E k).held = cntT tHeld E k ∧ (evs E k).waiting = (cntT tStarted E k : Int) - cntT tOut E k - cntT tFailed E k
  | 0 => ⟨rfl, rfl, rfl⟩
  | k + 1 => by
    obtain ⟨h1, h2, h3⟩ := counts E k
    show (obs _ _ _ _ _).created = _ ∧ (obs _ _ _ _ _).held = _ ∧ (obs _ _ _ _ _).waiting = _
    rcases obs_cases (evs E k) (E k) with ⟨n, e⟩ | ⟨n, e⟩ | ⟨n, e⟩ | ⟨n, e⟩ | ⟨n, e⟩ | ⟨n, e⟩ | ⟨n, e⟩ | ⟨n, e⟩
    · rw [e]
      simp only [cntT_of _ E k _ n, show (tCreated == tCreated) = true from by decide, show (tCreated == tHeld) = false from by decide, show (tCreated == tStarted) = false from by decide, show (tCreated == tOut) = false from by decide, show (tCreated == tFailed) = false from by decide, if_true, Bool.false_eq_true, if_false, h1, h2, h3]
      refine ⟨by omega, trivial, trivial⟩
    · obtain ⟨g1, g2, g3, _⟩ := move_rest (evs E k) (E k).id 1
      rw [e, g1, g2, g3]
      rcases n with n | n
      · simp only [cntT_of _ E k _ n, show (tReady == tCreated) = false from by decide, show (tReady == tHeld) = false from by decide, show (tReady == tStarted) = false from by decide, show (tReady == tOut) = false from by decide, show (tReady == tFailed) = false from by decide, Bool.false_eq_true, if_false, h1, h2, h3]
        exact ⟨trivial, trivial, trivial⟩
      · simp only [cntT_of _ E k _ n, show (tIn == tCreated) = false from by decide, show (tIn == tHeld) = false from by decide, show (tIn == tStarted) = false from by decide, show (tIn == tOut) = false from by decide, show (tIn == tFailed) = false from by decide, Bool.false_eq_true, if_false, h1, h2, h3]
        exact ⟨trivial, trivial, trivial⟩
    · obtain ⟨g1, g2, g3, _⟩ := move_rest (evs E k) (E k).id 2
      rw [e]
      show (stMove _ _ _).created = _ ∧ (stMove _ _ _).held = _ ∧ (stMove _ _ _).waiting + -1 = _
      rw [g1, g2, g3]
      simp only [cntT_of _ E k _ n, show (tOut == tCreated) = false from by decide, show (tOut == tHeld) = false from by decide, show (tOut == tStarted) = false from by decide, show (tOut == tOut) = true from by decide, show (tOut == tFailed) = false from by decide, if_true, Bool.false_eq_true, if_false, h1, h2, h3]
      refine ⟨trivial, trivial, by omega⟩
    · obtain ⟨g1, g2, g3, _⟩ := drop_rest (evs E k) (E k).id
      rw [e]
      show (stDrop _ _).created = _ ∧ (stDrop _ _).held = _ ∧ (stDrop _ _).waiting = _
      rw [g1, g2, g3]
      simp only [cntT_of _ E k _ n, show (tClosed == tCreated) = false from by decide, show (tClosed == tHeld) = false from by decide, show (tClosed == tStarted) = false from by decide, show (tClosed == tOut) = false from by decide, show (tClosed == tFailed) = false from by decide, Bool.false_eq_true, if_false, h1, h2, h3]
      exact ⟨trivial, trivial, trivial⟩
    · rw [e]
      show (evs E k).created = _ ∧ (evs E k).held = _ ∧ (evs E k).waiting + 1 = _
      simp only [cntT_of _ E k _ n, show (tStarted == tCreated) = false from by decide, show (tStarted == tHeld) = false from by decide, show (tStarted == tStarted) = true from by decide, show (tStarted == tOut) = false from by decide, show (tStarted == tFailed) = false from by decide, if_true, Bool.false_eq_true, if_false, h1, h2, h3]
      refine ⟨trivial, trivial, by omega⟩
    · rw [e]
      show (evs E k).created = _ ∧ (evs E k).held = _ ∧ (evs E k).waiting + -1 = _
      simp only [cntT_of _ E k _ n, show (tFailed == tCreated) = false from by decide, show (tFailed == tHeld) = false from by decide, show (tFailed == tStarted) = false from by decide, show (tFailed == tOut) = false from by decide, show (tFailed == tFailed) = true from by decide, if_true, Bool.false_eq_true, if_false, h1, h2, h3]
      refine ⟨trivial, trivial, by omega⟩
    · rw [e]
      show (evs E k).created = _ ∧ (evs E k).held + 1 = _ ∧ (evs E k).waiting = _
      simp only [cntT_of _ E k _ n, show (tHeld == tCreated) = false from by decide, show (tHeld == tHeld) = true from by decide, show (tHeld == tStarted) = false from by decide, show (tHeld == tOut) = false from by decide, show (tHeld == tFailed) = false from by decide, if_true, Bool.false_eq_true, if_false, h1, h2, h3]
      refine ⟨trivial, by omega, trivial⟩
    · obtain ⟨n1, n2, n3, n4, n5, n6, n7, n8⟩ := n
      rw [e]
      unfold cntT isT
      simp only [show ((E k).ty.toList == tCreated) = false from by simpa using n1, show ((E k).ty.toList == tHeld) = false from by simpa using n8, show ((E k).ty.toList == tStarted) = false from by simpa using n6, show ((E k).ty.toList == tOut) = false from by simpa using n4, show ((E k).ty.toList == tFailed) = false from by simpa using n7, Bool.false_eq_true, if_false, h1, h2, h3]
      exact ⟨trivial, trivial, trivial⟩

/-! ### the tallies by reason -/
def cntR (t : List UInt8) (E : Nat → Ev) (r : ByteArray) : Nat → Nat
  | 0 => 0
  | k + 1 => if isT t (E k) = true ∧ (E k).rs = r then cntR t E r k + 1 else cntR t E r k
def dist (t : List UInt8) (E : Nat → Ev) : Nat → Nat
  | 0 => 0
  | k + 1 => if isT t (E k) = true ∧ cntR t E (E k).rs k = 0 then dist t E k + 1 else dist t E k
theorem cntR_le (t : List UInt8) (E : Nat → Ev) (r : ByteArray) : ∀ k, cntR t E r k ≤ k
  | 0 => Nat.le_refl _
  | k + 1 => by have := cntR_le t E r k; unfold cntR; split <;> omega
theorem dist_le (t : List UInt8) (E : Nat → Ev) : ∀ k, dist t E k ≤ k
  | 0 => Nat.le_refl _
  | k + 1 => by have := dist_le t E k; unfold dist; split <;> omega
/-- A tally and the events it tells of. -/
structure Tal (t : List UInt8) (E : Nat → Ev) (k : Nat) (D : DataW Unit) : Prop where
  tidy : Tidy D
  val : ∀ r, D.atKey (krs r) (n64 0) = n64 (cntR t E r k)
  has : ∀ r, Maps.has D (krs r) = decide (0 < cntR t E r k)
  size : Maps.size D = dist t E k
theorem Tal.zero (t : List UInt8) (E : Nat → Ev) : Tal t E 0 (.map []) := ⟨tidy_empty, fun _ => rfl, fun _ => rfl, rfl⟩
theorem Tal.skip {t : List UInt8} {E : Nat → Ev} {k : Nat} {D : DataW Unit} (h : Tal t E k D) (hn : isT t (E k) = false) : Tal t E (k + 1) D := by
  have e1 : ∀ r, cntR t E r (k + 1) = cntR t E r k := fun r => by rw [cntR, if_neg (by rw [hn]; simp)]
  have e2 : dist t E (k + 1) = dist t E k := by rw [dist, if_neg (by rw [hn]; simp)]
  exact ⟨h.tidy, fun r => by rw [e1]; exact h.val r, fun r => by rw [e1]; exact h.has r, by rw [e2]; exact h.size⟩
theorem Tal.more {t : List UInt8} {E : Nat → Ev} {k : Nat} {D : DataW Unit} (h : Tal t E k D) (hn : isT t (E k) = true) : Tal t E (k + 1) (D.put (krs (E k).rs) (n64 (valI (D.atKey (krs (E k).rs) (n64 0)) + 1))) := by
  refine ⟨h.tidy.put (key_rs _) _, fun r => ?_, fun r => ?_, ?_⟩
  · rw [cntR]
    by_cases e : (E k).rs = r
    · subst e
      rw [if_pos ⟨hn, rfl⟩, atKey_put_same h.tidy.isMap (key_rs _), h.val]
      show n64 _ = n64 _
      congr 1
    · rw [if_neg (fun c => e c.2), atKey_put_other (fun c => e (krs_inj c).symm)]
      exact h.val r
  · rw [cntR]
    by_cases e : (E k).rs = r
    · subst e
      rw [if_pos ⟨hn, rfl⟩, has_put_same h.tidy.isMap (key_rs _)]
      simp
    · rw [if_neg (fun c => e c.2), has_put_other (fun c => e (krs_inj c).symm)]
      exact h.has r
  · rw [size_put h.tidy, h.has, h.size, dist]
    by_cases e : cntR t E (E k).rs k = 0
    · simp [e, hn]
    · have : 0 < cntR t E (E k).rs k := by omega
      simp [this, hn, e]
theorem isT_of {e : Ev} {x : List UInt8} (t : List UInt8) (h : e.ty.toList = x) : isT t e = (x == t) := by unfold isT; rw [h]
theorem isT_ne {e : Ev} {t : List UInt8} (h : e.ty.toList ≠ t) : isT t e = false := by simpa [isT] using h
theorem tallies (E : Nat → Ev) : ∀ k, Tal tClosed E k (evs E k).closed ∧ Tal tFailed E k (evs E k).failed
  | 0 => ⟨Tal.zero _ _, Tal.zero _ _⟩
  | k + 1 => by
    obtain ⟨h1, h2⟩ := tallies E k
    show Tal tClosed E (k + 1) (obs _ _ _ _ _).closed ∧ Tal tFailed E (k + 1) (obs _ _ _ _ _).failed
    rcases obs_cases (evs E k) (E k) with ⟨n, e⟩ | ⟨n, e⟩ | ⟨n, e⟩ | ⟨n, e⟩ | ⟨n, e⟩ | ⟨n, e⟩ | ⟨n, e⟩ | ⟨n, e⟩
    · rw [e]; exact ⟨h1.skip (by rw [isT_of _ n]; decide), h2.skip (by rw [isT_of _ n]; decide)⟩
    · obtain ⟨_, _, _, g1, g2⟩ := move_rest (evs E k) (E k).id 1
      rw [e, g1, g2]
      rcases n with n | n
      · exact ⟨h1.skip (by rw [isT_of _ n]; decide), h2.skip (by rw [isT_of _ n]; decide)⟩
      · exact ⟨h1.skip (by rw [isT_of _ n]; decide), h2.skip (by rw [isT_of _ n]; decide)⟩
    · obtain ⟨_, _, _, g1, g2⟩ := move_rest (evs E k) (E k).id 2
      rw [e]
      show Tal tClosed E (k + 1) (stMove _ _ _).closed ∧ Tal tFailed E (k + 1) (stMove _ _ _).failed
      rw [g1, g2]
      exact ⟨h1.skip (by rw [isT_of _ n]; decide), h2.skip (by rw [isT_of _ n]; decide)⟩
    · obtain ⟨_, _, _, g1, g2⟩ := drop_rest (evs E k) (E k).id
      rw [e]
      unfold stTally
      simp only [g1, g2]
      exact ⟨h1.more (by rw [isT_of _ n]; decide), h2.skip (by rw [isT_of _ n]; decide)⟩
    · rw [e]; exact ⟨h1.skip (by rw [isT_of _ n]; decide), h2.skip (by rw [isT_of _ n]; decide)⟩
    · rw [e]; exact ⟨h1.skip (by rw [isT_of _ n]; decide), h2.more (by rw [isT_of _ n]; decide)⟩
    · rw [e]; exact ⟨h1.skip (by rw [isT_of _ n]; decide), h2.skip (by rw [isT_of _ n]; decide)⟩
    · obtain ⟨n1, n2, n3, n4, n5, n6, n7, n8⟩ := n
      rw [e]; exact ⟨h1.skip (isT_ne n5), h2.skip (isT_ne n7)⟩
end Go.Proofs.Qxb6615473a
