import Derived.Test.Qxb6615102aArgs
namespace Go.Proofs.Qxb6615102a
open Go.RowKit
set_option linter.unusedVariables false

/-! ### from what came in to what Order takes -/
def nats (E : Nat → List Int) (i : Nat) : List Nat := (E i).map Int.toNat
theorem nats_len (E : Nat → List Int) (i : Nat) : (nats E i).length = (E i).length := by simp [nats]
theorem nats_getD (E : Nat → List Int) (i t : Nat) (ht : t < (E i).length) (h : ∀ x, x ∈ E i → 0 ≤ x) : (((nats E i).getD t 0 : Nat) : Int) = (E i).getD t 0 := by
  unfold nats
  rw [List.getD_eq_getElem?_getD, List.getElem?_map, List.getD_eq_getElem?_getD, List.getElem?_eq_getElem ht]
  have := h _ (List.getElem_mem ht)
  simp only [Option.map_some, Option.getD_some]
  omega
theorem nats_mem (E : Nat → List Int) (n i : Nat) (h : ∀ x, x ∈ E i → 0 ≤ x ∧ x < (n : Int)) (j : Nat) (hj : j ∈ nats E i) : j < n := by
  unfold nats at hj
  obtain ⟨x, hx, rfl⟩ := List.mem_map.1 hj
  have := h x hx
  omega
theorem nats_sum (E : Nat → List Int) : ∀ i, sumLen (nats E) i = sumI E i
  | 0 => rfl
  | i + 1 => by rw [sumLen_succ, sumI_succ, nats_sum E i, nats_len]
theorem sumI_mono (E : Nat → List Int) (i : Nat) : ∀ m, i ≤ m → sumI E i ≤ sumI E m
  | 0, h => by rw [show i = 0 by omega]; exact Nat.le_refl _
  | m + 1, h => by
    rcases Nat.lt_or_ge i (m + 1) with h1 | h1
    · have := sumI_mono E i m (by omega)
      rw [sumI_succ]; omega
    · rw [show i = m + 1 by omega]; exact Nat.le_refl _

theorem SlI.slAt {w : World} {B : Nat} {v : Value} {E : Nat → List Int} {i : Nat} (h : SlI w B v (E i)) (hp : ∀ x, x ∈ E i → 0 ≤ x) : SlAt w B v (nats E i) := by
  obtain ⟨ao, cap, e, _, _, hc⟩ := h
  refine ⟨ao, cap, by rw [nats_len]; exact e, fun t ht => ?_⟩
  rw [nats_len] at ht
  obtain ⟨b, o, e1, h1, h2⟩ := hc t ht
  exact ⟨b, o, e1, h1, by rw [h2, nats_getD E i t ht hp]⟩
theorem LL.rows {w : World} {ao : Option Addr} {N cap : Nat} {sv : Nat → Value} {E : Nat → List Int} (h : LL w ao N sv E) (n : Nat) (hn : n ≤ N) (hN : N ≤ 65536) (hd : ∀ i, i < n → ∀ x, x ∈ E i → 0 ≤ x ∧ x < (n : Int)) : RowsV w w.heap.size (.slice ao N cap) n sv (nats E) := by
  intro i hi
  obtain ⟨b, off, rfl, h1, h2, h3⟩ := h.2 i (by omega)
  exact ⟨b, off, N, cap, rfl, h1, by omega, by omega, h2, h3.slAt (fun x hx => (hd i hi x hx).1)⟩

/-! ### the lists, each told twice, and an empty one behind -/
def dup (D : Nat → List Nat) (n k : Nat) : List Nat := if k < n then D k ++ D k else []
theorem dup_mem (D : Nat → List Nat) (n k : Nat) (h : k < n) (j : Nat) : j ∈ dup D n k ↔ j ∈ D k := by
  unfold dup; rw [if_pos h]; simp
theorem dup_n (D : Nat → List Nat) (n : Nat) : dup D n n = [] := by unfold dup; simp
theorem dup_sum (D : Nat → List Nat) (n : Nat) : ∀ i, i ≤ n → sumLen (dup D n) i = 2 * sumLen D i
  | 0, _ => rfl
  | i + 1, h => by
    rw [sumLen_succ, sumLen_succ, dup_sum D n i (by omega)]
    unfold dup; rw [if_pos (by omega), List.length_append]; omega

/-- A slice of the law's own that reads xs, in a block above G. -/
def SlG (w : World) (G : Nat) (v : Value) (xs : List Nat) : Prop :=
  ∃ ao cap, v = .slice ao xs.length cap ∧ ∀ t, t < xs.length → ∃ b, ao = some ⟨b, 0, none⟩ ∧ G < b ∧ b < w.heap.size ∧ w.cell? ⟨b, t, none⟩ = some (.int .i64 ((xs.getD t 0 : Nat) : Int))
theorem SlG.keep {w w' : World} {G : Nat} {v : Value} {xs : List Nat} (h : SlG w G v xs) (hs : w.heap.size ≤ w'.heap.size) (hk : ∀ b, G < b → b < w.heap.size → w'.heap[b]? = w.heap[b]?) : SlG w' G v xs := by
  obtain ⟨ao, cap, e, hc⟩ := h
  refine ⟨ao, cap, e, fun t ht => ?_⟩
  obtain ⟨b, e1, h1, h2, h3⟩ := hc t ht
  exact ⟨b, e1, h1, by omega, (World.cell?_of_block (w := w) (hk b h1 h2)).trans h3⟩
theorem SlG.slAt {w : World} {G : Nat} {v : Value} {xs : List Nat} (h : SlG w G v xs) : SlAt w w.heap.size v xs := by
  obtain ⟨ao, cap, e, hc⟩ := h
  refine ⟨ao, cap, e, fun t ht => ?_⟩
  obtain ⟨b, e1, h1, h2, h3⟩ := hc t ht
  exact ⟨b, 0, e1, h2, by rw [Nat.zero_add]; exact h3⟩

/-- The memory while 'grown' is filled: i lists are. -/
structure Gr (w : World) (n : Nat) (D : Nat → List Nat) (wr : World) (i : Nat) : Prop where
  below : Below w.heap.size w wr
  rows : ∃ gs, RowAt wr w.heap.size 25 (n + 1) gs ∧ ∀ k, k < i → SlG wr w.heap.size (gs k) (D k ++ D k)

/-- The store 'grown[i] = l'. -/
theorem Gr.store {w : World} {n : Nat} {D : Nat → List Nat} {wr w' : World} {i : Nat} (h : Gr w n D wr i) (hi : i ≤ n) (hf : Frm (fun k => wr.heap.size ≤ k) wr w') {v : Value} (hv : SlG w' w.heap.size v (D i ++ D i)) :
    w'.cell? ⟨w.heap.size, i, none⟩ ≠ none ∧ w'.frozen? ⟨w.heap.size, i, none⟩ = false ∧ Gr w n D (w'.setCell ⟨w.heap.size, i, none⟩ v) (i + 1) := by
  obtain ⟨hb, gs, hr, hg⟩ := h
  have hlt := hr.lt
  have hr' := hr.frm hf (by omega)
  refine ⟨by rw [hr'.cell i (by omega)]; simp, hr'.free i, ?_, upd gs i v, hr'.store i v, fun k hk => ?_⟩
  · exact (hb.trans (hf.below (Nat.le_of_lt hlt) (fun k hk => by omega))).setCell (Nat.le_refl _) _
  · have hst : ∀ {u : Value} {xs : List Nat}, SlG w' w.heap.size u xs → SlG (w'.setCell ⟨w.heap.size, i, none⟩ v) w.heap.size u xs := fun h' =>
      h'.keep (by simp [World.setCell]) (fun b h1 _ => Below.heap_setCell _ _ _ _ (by show b ≠ w.heap.size; omega))
    unfold upd
    by_cases e : k = i
    · subst e
      rw [if_pos rfl]
      exact hst hv
    · rw [if_neg e]
      refine hst ((hg k (by omega)).keep hf.size (fun b _ h2 => hf.block b h2 (by omega)))

/-- What two appends have laid reads as the list twice. -/
theorem own_slg {w : World} {G base g cap : Nat} {xs : List Nat} {m : Nat} (h : w.ownsRow base 3 1 (.slice (some ⟨g, 0, none⟩) m cap) m ((ints xs).map (Value.int .i64))) (hm : m = xs.length) (hg : G < g) : SlG w G (.slice (some ⟨g, 0, none⟩) m cap) xs := by
  subst hm
  have h' : Own w base (.slice (some ⟨g, 0, none⟩) xs.length cap) (ints xs) := by unfold Own; rw [ints_len]; exact h
  refine ⟨some ⟨g, 0, none⟩, cap, rfl, fun t ht => ?_⟩
  obtain ⟨g2, cap2, hv, _, hl, _, hc, _⟩ := h'.shape (by rw [ints_len]; omega)
  simp only [Value.slice.injEq, Option.some.injEq, Addr.mk.injEq, and_true] at hv
  obtain ⟨rfl, _⟩ := hv
  exact ⟨g, rfl, hg, hl, by rw [hc t (by rw [ints_len]; exact ht), ints_getD _ _ ht]⟩

/-- All lists are laid and the empty one behind them: what the second call reads. -/
theorem Gr.whole {w wr : World} {n : Nat} {D : Nat → List Nat} (h : Gr w n D wr n) (hn : n ≤ 65536) :
    Below w.heap.size w ((wr.setCell ⟨w.heap.size, n, none⟩ (.slice (some ⟨wr.heap.size, 0, none⟩) 0 0)).alloc (.cells #[] 3)) ∧
    w.heap.size < ((wr.setCell ⟨w.heap.size, n, none⟩ (.slice (some ⟨wr.heap.size, 0, none⟩) 0 0)).alloc (.cells #[] 3)).heap.size ∧
    ∃ gs, RowsV ((wr.setCell ⟨w.heap.size, n, none⟩ (.slice (some ⟨wr.heap.size, 0, none⟩) 0 0)).alloc (.cells #[] 3)) ((wr.setCell ⟨w.heap.size, n, none⟩ (.slice (some ⟨wr.heap.size, 0, none⟩) 0 0)).alloc (.cells #[] 3)).heap.size (.slice (some ⟨w.heap.size, 0, none⟩) (n + 1) (n + 1)) (n + 1) gs (dup D n) := by
  obtain ⟨hb, gs, hr, hg⟩ := h
  have hlt := hr.lt
  have hs1 : (wr.setCell ⟨w.heap.size, n, none⟩ (.slice (some ⟨wr.heap.size, 0, none⟩) 0 0)).heap.size = wr.heap.size := by simp [World.setCell]
  have hs2 : ((wr.setCell ⟨w.heap.size, n, none⟩ (.slice (some ⟨wr.heap.size, 0, none⟩) 0 0)).alloc (.cells #[] 3)).heap.size = wr.heap.size + 1 := by
    show ((wr.setCell ⟨w.heap.size, n, none⟩ (.slice (some ⟨wr.heap.size, 0, none⟩) 0 0)).heap.push _).size = _
    rw [Array.size_push, hs1]
  have hr2 : RowAt ((wr.setCell ⟨w.heap.size, n, none⟩ (.slice (some ⟨wr.heap.size, 0, none⟩) 0 0)).alloc (.cells #[] 3)) w.heap.size 25 (n + 1) (upd gs n (.slice (some ⟨wr.heap.size, 0, none⟩) 0 0)) :=
    (hr.store n _).same (Below.heap_alloc _ _ _ (by rw [hs1]; exact hlt))
  refine ⟨(hb.setCell (Nat.le_refl _) _).alloc (by rw [hs1]; omega) _, by rw [hs2]; omega, upd gs n (.slice (some ⟨wr.heap.size, 0, none⟩) 0 0), fun i hi => ⟨w.heap.size, 0, n + 1, n + 1, rfl, by rw [hs2]; omega, hi, by omega, by rw [Nat.zero_add]; exact hr2.cell i hi, ?_⟩⟩
  unfold upd dup
  by_cases e : i = n
  · rw [if_pos e, if_neg (by omega)]
    exact ⟨_, _, rfl, fun t ht => absurd ht (Nat.not_lt_zero t)⟩
  · rw [if_neg e, if_pos (by omega)]
    refine (SlG.keep (hg i (by omega)) (by rw [hs2]; omega) (fun b h1 h2 => ?_)).slAt
    rw [Below.heap_alloc _ _ _ (by rw [hs1]; exact h2), Below.heap_setCell _ _ _ _ (by show b ≠ w.heap.size; omega)]
end Go.Proofs.Qxb6615102a
