import Derived.Test.Qxb6615102aFresh
import Derived.Test.Qxb6615102aLowPlain
namespace Go.Proofs.Qxb6615102a
open Go.RowKit
set_option linter.unusedVariables false

/-- A slice of ints whose p-th is one of P's numbers from p on, s of them. -/
def WinAt (w : World) (v : Value) (P : List Nat) (s : Nat) : Prop :=
  ∃ (b cap : Nat) (cur : Array Value), v = .slice (some ⟨b, 0, none⟩) (P.length + 1 - s) cap ∧ w.heap[b]? = some (.cells cur 3 (0, 0)) ∧ ∀ p, p + s ≤ P.length → ∃ q, p ≤ q ∧ q < p + s ∧ cur[p]? = some (.int .i64 ((P.getD q 0 : Nat) : Int))
theorem WinAt.same {w w' : World} {v : Value} {P : List Nat} {s : Nat} (h : WinAt w v P s) (e : ∀ (b : Nat) (cur : Array Value), w.heap[b]? = some (.cells cur 3 (0, 0)) → w'.heap[b]? = w.heap[b]?) : WinAt w' v P s := by
  obtain ⟨b, cap, cur, h1, h2, h3⟩ := h
  exact ⟨b, cap, cur, h1, (e b cur h2).trans h2, h3⟩
theorem WinAt.below {w w' : World} {v : Value} {P : List Nat} {s B : Nat} (h : WinAt w v P s) (hb : Below B w w') (hB : w.heap.size ≤ B) : WinAt w' v P s :=
  h.same fun b cur hc => hb.block b (Nat.lt_of_lt_of_le (lt_of_block hc) hB)
theorem WinAt.one {w : World} {v : Value} {P : List Nat} {s : Nat} (h : WinAt w v P s) : v.oneCell' = true := by
  obtain ⟨b, cap, cur, rfl, _⟩ := h
  rfl
theorem WinAt.read {w : World} {v : Value} {P : List Nat} {s : Nat} (h : WinAt w v P s) : ∃ b cap, v = .slice (some ⟨b, 0, none⟩) (P.length + 1 - s) cap ∧ b < w.heap.size ∧ ∀ p, p + s ≤ P.length → ∃ q, p ≤ q ∧ q < p + s ∧ w.cell? ⟨b, p, none⟩ = some (.int .i64 ((P.getD q 0 : Nat) : Int)) := by
  obtain ⟨b, cap, cur, rfl, h2, h3⟩ := h
  refine ⟨b, cap, rfl, lt_of_block h2, fun p hp => ?_⟩
  obtain ⟨q, h4, h5, h6⟩ := h3 p hp
  exact ⟨q, h4, h5, by rw [cell_of_row w b p cur 3 (0, 0) h2]; exact h6⟩
/-- The run itself is the first of the levels. -/
theorem Own.win {w : World} {base O cap : Nat} {P : List Nat} (h : Own w base (.slice (some ⟨O, 0, none⟩) P.length cap) (ints P)) : WinAt w (.slice (some ⟨O, 0, none⟩) P.length cap) P 1 := by
  have h0 := h
  rcases h.2 with ⟨hv, _⟩ | ⟨g, c, cur, hv, _, hg, _, _, _, ht⟩
  · cases hv
  · simp only [Value.slice.injEq, Option.some.injEq, Addr.mk.injEq, and_true] at hv
    obtain ⟨rfl, _, rfl⟩ := hv
    refine ⟨O, cap, cur, by simp, hg, fun p hp => ⟨p, Nat.le_refl _, by omega, ?_⟩⟩
    have := h0.reads rfl p (by omega)
    rw [cell_of_row w O p cur 3 (0, 0) hg] at this
    exact this
/-- A row of the call's own, filled. -/
theorem RowAt.win {w : World} {g : Nat} {P : List Nat} {s : Nat} {c : Nat → Value} (h : RowAt w g 3 (P.length + 1 - s) c) (hs : 0 < s) (hc : ∀ p, p + s ≤ P.length → ∃ q, p ≤ q ∧ q < p + s ∧ c p = .int .i64 ((P.getD q 0 : Nat) : Int)) : WinAt w (.slice (some ⟨g, 0, none⟩) (P.length + 1 - s) (P.length + 1 - s)) P s := by
  obtain ⟨cur, h1, h2, h3⟩ := h
  refine ⟨g, _, cur, rfl, h1, fun p hp => ?_⟩
  obtain ⟨q, h4, h5, h6⟩ := hc p hp
  exact ⟨q, h4, h5, by rw [h3 p (by omega), h6]⟩

/-- The levels so far: k + 1 of them. -/
def Lv (w : World) (P : List Nat) (wr : World) (k : Nat) (v : Value) : Prop :=
  Below w.heap.size w wr ∧ ∃ gs : List Value, gs.length = k + 1 ∧ wr.ownsRow w.heap.size 25 1 v (k + 1) gs ∧ ∀ i u, gs[i]? = some u → WinAt wr u P (2 ^ i)

theorem Lv.read {w wr : World} {P : List Nat} {k : Nat} {v : Value} (h : Lv w P wr k v) : ∃ g cap, v = .slice (some ⟨g, 0, none⟩) (k + 1) cap ∧ ∀ i, i ≤ k → ∃ u, wr.cell? ⟨g, i, none⟩ = some u ∧ WinAt wr u P (2 ^ i) := by
  obtain ⟨hb, gs, hl, ho, hw⟩ := h
  have h0 := ho
  rcases ho.2 with ⟨_, h'⟩ | ⟨g, cap, cur, rfl, _⟩
  · omega
  · refine ⟨g, cap, rfl, fun i hi => ?_⟩
    have e : gs[i]? = some gs[i] := List.getElem?_eq_getElem (by omega)
    exact ⟨gs[i], by rw [h0.cellAt i (by omega)]; exact e, hw i _ e⟩

theorem Lv.start {w : World} {base O cap : Nat} {P : List Nat} (h : Own w base (.slice (some ⟨O, 0, none⟩) P.length cap) (ints P)) :
    Lv w P (w.alloc (.cells #[.slice (some ⟨O, 0, none⟩) P.length cap] 25)) 0 (.slice (some ⟨w.heap.size, 0, none⟩) 1 1) := by
  have hB : Below w.heap.size w (w.alloc (.cells #[.slice (some ⟨O, 0, none⟩) P.length cap] 25)) := (Below.refl _ _).alloc (Nat.le_refl _) _
  refine ⟨hB, [.slice (some ⟨O, 0, none⟩) P.length cap], rfl, ⟨rfl, .inr ⟨w.heap.size, 1, #[.slice (some ⟨O, 0, none⟩) P.length cap], rfl, Nat.le_refl _, by show (w.heap.push _)[w.heap.size]? = _; simp, Nat.le_refl _, by unfold maxLen; omega, rfl, rfl⟩⟩, fun i u hu => ?_⟩
  have hi : i = 0 := by
    have := (List.getElem?_eq_some_iff.1 hu).1
    simp at this
    omega
  subst hi
  simp only [List.getElem?_cons_zero, Option.some.injEq] at hu
  subst hu
  exact h.win.below hB (Nat.le_refl _)

/-- One slice appended to a row of slices. -/
theorem append_sl (w : World) (base : Nat) (v : Value) (k : Nat) (gs : List Value) (u : Value) (h : w.ownsRow base 25 1 v (k + 1) gs) (hu : u.oneCell' = true) (hl : k ≤ 2000000) (hb : base ≤ w.heap.size) (ad : Addr) (hx : w.cell? ad = some u) (hsp : ad.spot = none) (hgs : gs.length = k + 1) :
    ∃ v' w', (Builtin.append_ #[22, 22] 22 #[v, .slice (some ad) 1 1]).run Try.prog w = .ok v' w' ∧ w'.ownsRow base 25 1 v' (k + 1 + 1) (gs ++ [u]) ∧ w.grownBy w' v.ownBlock := by
  obtain ⟨i0, hi, hz0, hz1, hz2⟩ := info_parts info25
  have h1c : ∀ x ∈ [u], x.oneCell' = true := by intro x hx; simp at hx; subst hx; exact hu
  rcases h.2 with ⟨_, hn⟩ | ⟨g, cap, cur, rfl, hbg, hg, hle, hcm, hcs, htake⟩
  · omega
  · by_cases hroom : k + 1 + 1 ≤ cap
    · obtain ⟨w', r1, r2, r3⟩ := run_append_fits (P := Try.prog) w base 22 22 25 i0 1 Try.underlying22 hi hz1 g (k + 1) cap _ h ad 1 1 [u] rfl (one_cells hsp hx) h1c hroom
      exact ⟨_, w', r1, r2, r3⟩
    · obtain ⟨v', w', r1, r2, r3⟩ := run_append_arg_grows (P := Try.prog) w 22 22 25 i0 (.slice none 0 0) 1 24 Try.underlying22 hi hz0 hz1 hz2 rfl (by decide) ⟨g, 0, none⟩ (k + 1) cap gs (by simpa using hgs) (fun j x hj => by
        have hj' := (List.getElem?_eq_some_iff.1 hj).1
        rw [Addr.add_lit, Nat.zero_add, h.cellAt j (by omega)]; exact hj) ad 1 1 [u] rfl (one_cells hsp hx) (by omega) (by unfold maxLen; omega) (by omega)
      exact ⟨v', w', r1, owns_mono r2 hb, ⟨r3.os, r3.tape, r3.output, r3.size, fun k hk _ => r3.block k hk (by simp)⟩⟩

theorem Lv.push {w wr w3 : World} {P : List Nat} {k : Nat} {v u : Value} (h : Lv w P wr k v) (hf : Frm (fun j => wr.heap.size ≤ j) wr w3) (hu : WinAt w3 u P (2 ^ (k + 1))) (hk : k ≤ 100000) :
    ∃ g cap w4, (Builtin.append_ #[22, 22] 22 #[v, .slice (some ⟨w3.heap.size, 0, none⟩) 1 1]).run Try.prog (w3.alloc (.cells #[u] 25)) = .ok (.slice (some ⟨g, 0, none⟩) (k + 1 + 1) cap) w4 ∧ Lv w P w4 (k + 1) (.slice (some ⟨g, 0, none⟩) (k + 1 + 1) cap) := by
  obtain ⟨hb, gs, hl, ho, hw⟩ := h
  have hsz : (w3.alloc (.cells #[u] 25)).heap.size = w3.heap.size + 1 := by show (w3.heap.push _).size = _; simp
  have hf' : Frm (fun j => wr.heap.size ≤ j) wr (w3.alloc (.cells #[u] 25)) := hf.alloc _
  have hown : (w3.alloc (.cells #[u] 25)).ownsRow w.heap.size 25 1 v (k + 1) gs := by
    obtain ⟨h1, h2 | ⟨g, cap, cur, hv, hbb, hg, r⟩⟩ := ho
    · exact ⟨h1, .inl h2⟩
    · exact ⟨h1, .inr ⟨g, cap, cur, hv, hbb, (hf'.block g (lt_of_block hg) (by have := lt_of_block hg; omega)).trans hg, r⟩⟩
  obtain ⟨v', w4, hrun, ho4, hg4⟩ := append_sl (w3.alloc (.cells #[u] 25)) w.heap.size v k gs u hown hu.one (by omega) (by have := hb.size; have := hf.size; omega) ⟨w3.heap.size, 0, none⟩ (by simp [go_sem]) rfl hl
  have h04 := ho4
  rcases ho4.2 with ⟨_, h'⟩ | ⟨g, cap, cur, rfl, _⟩
  · omega
  have hbl : ∀ (b : Nat) (cur : Array Value), (w3.alloc (.cells #[u] 25)).heap[b]? = some (.cells cur 3 (0, 0)) → w4.heap[b]? = (w3.alloc (.cells #[u] 25)).heap[b]? := by
    intro b cur hc
    refine hg4.block b (lt_of_block hc) (fun e => ?_)
    rcases hown.2 with ⟨_, h'⟩ | ⟨g2, cap2, cur2, hv, _, hg2, _⟩
    · omega
    · rw [hv] at e
      have e' : b = g2 := Option.some.inj e
      subst e'
      rw [hc] at hg2
      simp at hg2
  refine ⟨g, cap, w4, hrun, ?_, gs ++ [u], by simp [hl], h04, fun i x hx => ?_⟩
  · refine Below.grown ((hb.trans (hf.below hb.size (fun j hj => by have := hb.size; omega))).alloc (by have := hb.size; have := hf.size; omega) _) hg4 (by have := hb.size; have := hf.size; omega) (fun j hj => ?_)
    rcases ho.2 with ⟨_, h'⟩ | ⟨g2, cap2, cur2, rfl, hbb, _⟩
    · omega
    · obtain rfl := Option.some.inj hj
      exact hbb
  · refine WinAt.same ?_ hbl
    rcases Nat.lt_or_ge i (k + 1) with h1 | h1
    · rw [List.getElem?_append_left (by omega)] at hx
      exact (hw i x hx).same fun b cur hc => hf'.block b (lt_of_block hc) (by have := lt_of_block hc; omega)
    · have : i = k + 1 := by
        have := (List.getElem?_eq_some_iff.1 hx).1
        simp [hl] at this
        omega
      subst this
      rw [List.getElem?_append_right (by omega), hl] at hx
      simp at hx
      subst hx
      exact hu.same fun b cur hc => Below.heap_alloc _ _ _ (lt_of_block hc)

end Go.Proofs.Qxb6615102a
