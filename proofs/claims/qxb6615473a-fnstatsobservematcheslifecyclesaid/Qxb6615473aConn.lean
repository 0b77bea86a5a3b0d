import Derived.Test.Qxb6615473aLife
namespace Go.Proofs.Qxb6615473a
open Go.RowKit Go.Maps
set_option linter.unusedVariables false

/-- What the map of connections says of a number. -/
def look (D : DataW Unit) (id : Int) : Option Nat := if has D (kid id) = true then some (valI (D.atKey (kid id) (u8 0))).toNat else none
theorem look_put (D : DataW Unit) (hD : Tidy D) (a b : Int) (t : Nat) : look (D.put (kid a) (u8 t)) b = if b = a then some t else look D b := by
  unfold look
  by_cases e : b = a
  · subst e
    rw [if_pos rfl, has_put_same hD.isMap (key_id _), if_pos rfl, atKey_put_same hD.isMap (key_id _), valI_u8]
    simp
  · rw [if_neg e, has_put_other (fun c => e (kid_inj c)), atKey_put_other (fun c => e (kid_inj c))]
theorem look_del (D : DataW Unit) (a b : Int) : look (D.del (kid a)) b = if b = a then none else look D b := by
  unfold look
  by_cases e : b = a
  · subst e
    rw [if_pos rfl, has_del_same]; simp
  · rw [if_neg e, has_del_other (fun c => e (kid_inj c)), atKey_del_other (fun c => e (kid_inj c))]
theorem look_has (D : DataW Unit) (id : Int) : has D (kid id) = (look D id).isSome := by
  unfold look
  cases h : has D (kid id) <;> simp
theorem look_at {n : Nat} {S : St} (h : Bd n S) (id : Int) (s : Nat) (e : look S.conns id = some s) : S.conns.atKey (kid id) (u8 0) = u8 s ∧ s < 3 := by
  obtain ⟨s', h1, h2⟩ := h.st id
  unfold look at e
  split at e
  · rw [h2, valI_u8] at e
    simp only [Int.toNat_natCast, Option.some.injEq] at e
    subst e
    exact ⟨h2, h1⟩
  · cases e

/-- What an event makes of the state of the connection id. -/
def nxt (e : Ev) (id : Int) (o : Option Nat) : Option Nat :=
  if e.id = id then
    if isT tCreated e then some 0
    else match o with
      | none => none
      | some s => if isT tClosed e then none else if isT tReady e || isT tIn e then some 1 else if isT tOut e then some 2 else some s
  else o
theorem nxt_other (e : Ev) (id : Int) (o : Option Nat) (h : e.id ≠ id) : nxt e id o = o := by unfold nxt; rw [if_neg h]
theorem move_look (S : St) (ht : Tid S) (id : Int) (t : Nat) (b : Int) : look (stMove S id t).conns b = if b = id then (match look S.conns id with | none => none | some _ => some t) else look S.conns b := by
  unfold stMove
  have hl := look_has S.conns id
  by_cases e : has S.conns (kid id) = true
  · rw [if_pos e]
    show look (S.conns.put _ _) b = _
    rw [look_put _ ht.co]
    by_cases c : b = id
    · rw [if_pos c, if_pos c]
      rw [e] at hl
      obtain ⟨s, hs⟩ := Option.isSome_iff_exists.1 hl.symm
      rw [hs]
    · rw [if_neg c, if_neg c]
  · rw [if_neg e]
    by_cases c : b = id
    · subst c
      rw [if_pos rfl]
      have : look S.conns b = none := by unfold look; rw [if_neg e]
      rw [this]
    · rw [if_neg c]
theorem drop_look (S : St) (id : Int) (b : Int) : look (stDrop S id).conns b = if b = id then none else look S.conns b := by
  unfold stDrop
  by_cases e : has S.conns (kid id) = true
  · rw [if_pos e]
    exact look_del _ _ _
  · rw [if_neg e]
    by_cases c : b = id
    · subst c
      rw [if_pos rfl]
      unfold look; rw [if_neg e]
    · rw [if_neg c]

/-- The connections' states behind an event. -/
theorem obs_look (S : St) (ht : Tid S) (e : Ev) (b : Int) : look (obs S e.ty e.rs e.id e.d).conns b = nxt e b (look S.conns b) := by
  unfold nxt
  rcases obs_cases S e with ⟨n, q⟩ | ⟨n, q⟩ | ⟨n, q⟩ | ⟨n, q⟩ | ⟨n, q⟩ | ⟨n, q⟩ | ⟨n, q⟩ | ⟨n, q⟩
  · rw [q]
    show look (S.conns.put _ (u8 0)) b = _
    rw [show u8 0 = u8 ((0 : Nat) : Int) from rfl, look_put _ ht.co]
    by_cases c : e.id = b
    · rw [if_pos c.symm, if_pos c, isT_of _ n]; rfl
    · rw [if_neg (fun d => c d.symm), if_neg c]
  · rw [q, move_look S ht]
    have hr : (isT tReady e || isT tIn e) = true := by rcases n with n | n <;> (rw [isT_of _ n, isT_of _ n]; decide)
    have hc : isT tCreated e = false := by rcases n with n | n <;> (rw [isT_of _ n]; decide)
    have hx : isT tClosed e = false := by rcases n with n | n <;> (rw [isT_of _ n]; decide)
    by_cases c : e.id = b
    · subst c
      rw [if_pos rfl, if_pos rfl, hc, hx, hr]
      simp only [Bool.false_eq_true, if_false, if_true]
    · rw [if_neg (fun d => c d.symm), if_neg c]
  · rw [q]
    show look (stMove S e.id 2).conns b = _
    rw [move_look S ht]
    have hr : (isT tReady e || isT tIn e) = false := by rw [isT_of _ n, isT_of _ n]; decide
    have hc : isT tCreated e = false := by rw [isT_of _ n]; decide
    have hx : isT tClosed e = false := by rw [isT_of _ n]; decide
    have ho : isT tOut e = true := by rw [isT_of _ n]; decide
    by_cases c : e.id = b
    · subst c
      rw [if_pos rfl, if_pos rfl, hc, hx, hr, ho]
      simp only [Bool.false_eq_true, if_false, if_true]
    · rw [if_neg (fun d => c d.symm), if_neg c]
  · rw [q]
    show look (stDrop S e.id).conns b = _
    rw [drop_look S]
    have hc : isT tCreated e = false := by rw [isT_of _ n]; decide
    have hx : isT tClosed e = true := by rw [isT_of _ n]; decide
    by_cases c : e.id = b
    · subst c
      rw [if_pos rfl, if_pos rfl, hc, hx]
      simp only [Bool.false_eq_true, if_false, if_true]
      cases look S.conns e.id <;> rfl
    · rw [if_neg (fun d => c d.symm), if_neg c]
  all_goals
    have key : isT tCreated e = false ∧ isT tClosed e = false ∧ (isT tReady e || isT tIn e) = false ∧ isT tOut e = false := by
      first
        | (refine ⟨?_, ?_, ?_, ?_⟩ <;> (rw [isT_of _ n]; try rw [isT_of _ n]) <;> decide)
        | (obtain ⟨n1, n2, n3, n4, n5, n6, n7, n8⟩ := n
           exact ⟨isT_ne n1, isT_ne n5, by rw [isT_ne n2, isT_ne n3]; rfl, isT_ne n4⟩)
    obtain ⟨hc, hx, hr, ho⟩ := key
    rw [q]
    rw [hc, hx, hr, ho]
    simp only [Bool.false_eq_true, if_false]
    by_cases c : e.id = b
    · show look S.conns b = _
      rw [if_pos c]
      cases look S.conns b <;> rfl
    · show look S.conns b = _
      rw [if_neg c]

/-! ### what is one more, what one less -/
def ind (o : Option Nat) (s : Nat) : Int := if o = some s then 1 else 0
def one (o : Option Nat) : Int := if o.isSome then 1 else 0
theorem move_ga (S : St) (ht : Tid S) {n : Nat} (hb : Bd n S) (id : Int) (t : Nat) (s : Nat) :
    (stMove S id t).ga s = S.ga s - ind (look S.conns id) s + ind (match look S.conns id with | none => none | some _ => some t) s ∧ (size (stMove S id t).conns : Int) = size S.conns := by
  have hl := look_has S.conns id
  unfold stMove
  by_cases e : has S.conns (kid id) = true
  · rw [if_pos e]
    rw [e] at hl
    obtain ⟨s0, hs⟩ := Option.isSome_iff_exists.1 hl.symm
    obtain ⟨h1, h2⟩ := look_at hb id s0 hs
    rw [hs, h1, valI_u8]
    constructor
    · show bump (bump S.ga _ (-1)) t 1 s = _
      unfold bump ind
      simp only [Int.toNat_natCast, Option.some.injEq]
      repeat' split
      all_goals omega
    · show (size (S.conns.put _ _) : Int) = _
      rw [size_put ht.co, if_pos e]
  · rw [if_neg e]
    have : look S.conns id = none := by unfold look; rw [if_neg e]
    rw [this]
    simp [ind]
theorem drop_ga (S : St) (ht : Tid S) {n : Nat} (hb : Bd n S) (id : Int) (s : Nat) :
    (stDrop S id).ga s = S.ga s - ind (look S.conns id) s ∧ (size (stDrop S id).conns : Int) = size S.conns - one (look S.conns id) := by
  have hl := look_has S.conns id
  unfold stDrop
  by_cases e : has S.conns (kid id) = true
  · rw [if_pos e]
    have hz := size_del (k := kid id) ht.co
    rw [if_pos e] at hz
    rw [e] at hl
    obtain ⟨s0, hs⟩ := Option.isSome_iff_exists.1 hl.symm
    obtain ⟨h1, h2⟩ := look_at hb id s0 hs
    rw [hs, h1, valI_u8]
    constructor
    · show bump S.ga _ (-1) s = _
      unfold bump ind
      simp only [Int.toNat_natCast, Option.some.injEq]
      repeat' split
      all_goals omega
    · show (size (S.conns.del _) : Int) = _
      simp only [one, Option.isSome_some, if_true]
      omega
  · rw [if_neg e]
    have : look S.conns id = none := by unfold look; rw [if_neg e]
    rw [this]
    simp [ind, one]

/-- The gauges and the number of connections behind an event. -/
theorem obs_ga (S : St) (ht : Tid S) {n : Nat} (hb : Bd n S) (e : Ev) (hnew : isT tCreated e = true → look S.conns e.id = none) (s : Nat) :
    (obs S e.ty e.rs e.id e.d).ga s = S.ga s - ind (look S.conns e.id) s + ind (look (obs S e.ty e.rs e.id e.d).conns e.id) s ∧
    (size (obs S e.ty e.rs e.id e.d).conns : Int) = size S.conns - one (look S.conns e.id) + one (look (obs S e.ty e.rs e.id e.d).conns e.id) := by
  rcases obs_cases S e with ⟨n, q⟩ | ⟨n, q⟩ | ⟨n, q⟩ | ⟨n, q⟩ | ⟨n, q⟩ | ⟨n, q⟩ | ⟨n, q⟩ | ⟨n, q⟩
  · have h0 := hnew (by rw [isT_of _ n]; decide)
    have h1 : has S.conns (kid e.id) = false := by rw [look_has, h0]; rfl
    rw [obs_look S ht e e.id, h0, q]
    unfold nxt
    rw [if_pos rfl, isT_of _ n]
    constructor
    · show bump S.ga 0 1 s = _
      unfold bump ind
      simp only [show (tCreated == tCreated) = true from by decide, if_true, Option.some.injEq]
      by_cases c : s = 0
      · subst c; simp
      · have c' : ¬ 0 = s := fun d => c d.symm
        simp [c, c']
    · show (size (S.conns.put _ _) : Int) = _
      rw [size_put ht.co, h1]
      simp only [show (tCreated == tCreated) = true from by decide, if_true, one, Option.isSome_none, Option.isSome_some, Bool.false_eq_true, if_false]
      omega
  · rw [q, move_look S ht, if_pos rfl]
    obtain ⟨g1, g2⟩ := move_ga S ht hb e.id 1 s
    refine ⟨g1, ?_⟩
    rw [g2]
    cases look S.conns e.id <;> simp [one]
  · rw [q]
    show (stMove S e.id 2).ga s = _ - _ + ind (look (stMove S e.id 2).conns e.id) s ∧ (size (stMove S e.id 2).conns : Int) = _ - _ + one (look (stMove S e.id 2).conns e.id)
    rw [move_look S ht, if_pos rfl]
    obtain ⟨g1, g2⟩ := move_ga S ht hb e.id 2 s
    refine ⟨g1, ?_⟩
    rw [g2]
    cases look S.conns e.id <;> simp [one]
  · rw [q]
    show (stDrop S e.id).ga s = _ - _ + ind (look (stDrop S e.id).conns e.id) s ∧ (size (stDrop S e.id).conns : Int) = _ - _ + one (look (stDrop S e.id).conns e.id)
    rw [drop_look S, if_pos rfl]
    obtain ⟨g1, g2⟩ := drop_ga S ht hb e.id s
    rw [g1, g2]
    simp [ind, one]
  all_goals
    rw [q]
    constructor
    · show S.ga s = S.ga s - ind (look S.conns e.id) s + ind (look S.conns e.id) s
      omega
    · show (size S.conns : Int) = size S.conns - one (look S.conns e.id) + one (look S.conns e.id)
      omega
end Go.Proofs.Qxb6615473a
