import Derived.Test.Qxb6615102aOrderParts
namespace Go.Proofs.Qxb6615102a
open Go.RowKit
set_option linter.unusedVariables false

/-- The memory behind the first loops: 'waits' f, the heap zs; all else as it stood in wA. -/
structure St2 (w wA : World) (n H : Nat) (wr : World) (f : Nat → Int) (v : Value) (zs : List Int) : Prop where
  frm : Frm (fun k => k = w.heap.size ∨ wA.heap.size ≤ k) wA wr
  waits : RowAt wr w.heap.size 3 n (fun k => .int .i64 (f k))
  heap : HeapAt wr H v zs
  hp : Hp zs zs.length
  row : ∀ k, v.ownBlock = some k → wA.heap.size ≤ k
  lt : w.heap.size < wA.heap.size
  le : wA.heap.size ≤ H

theorem tch_out {w wA : World} {n H : Nat} {wr : World} {f : Nat → Int} {v : Value} {zs : List Int} (h : St2 w wA n H wr f v zs) (k : Nat) (hk : k < wA.heap.size) : ¬ Tch H v k := by
  rintro (e | e)
  · have := h.le; omega
  · have := h.row k e.symm; omega

theorem St2.push {w wA : World} {n H : Nat} {wr w' : World} {f : Nat → Int} {v v' : Value} {zs zs' : List Int} (h : St2 w wA n H wr f v zs) (ha : HeapAt w' H v' zs') (hh : Hp zs' zs'.length) (hf : Frm (Tch H v) wr w')
    (hv : v'.ownBlock = v.ownBlock ∨ ∃ g, v'.ownBlock = some g ∧ wr.heap.size ≤ g) : St2 w wA n H w' f v' zs' :=
  ⟨h.frm.then hf (fun i hi t => absurd t (tch_out h i hi)), h.waits.frm hf (tch_out h _ h.lt), ha, hh, fun k hk => by
    rcases hv with e | ⟨g, e, hg⟩
    · exact h.row k (e ▸ hk)
    · rw [e] at hk
      obtain rfl := Option.some.inj hk
      exact Nat.le_trans h.frm.size hg, h.lt, h.le⟩

def updF (f : Nat → Int) (j : Nat) (x : Int) (k : Nat) : Int := if k = j then x else f k
theorem St2.store {w wA : World} {n H : Nat} {wr : World} {f : Nat → Int} {v : Value} {zs : List Int} (h : St2 w wA n H wr f v zs) (j : Nat) (x : Int) : St2 w wA n H (wr.setCell ⟨w.heap.size, j, none⟩ (.int .i64 x)) (updF f j x) v zs := by
  have hlt := h.lt
  have hle := h.le
  refine ⟨h.frm.setCell (Or.inl rfl) _, (h.waits.store j _).congr (fun k _ => ?_), ⟨?_, ?_, h.heap.ne⟩, h.hp, h.row, h.lt, h.le⟩
  · unfold upd updF
    split <;> rfl
  · rw [Below.heap_setCell _ _ _ _ (by show H ≠ w.heap.size; omega)]; exact h.heap.box
  · refine h.heap.own.setOther (fun e => ?_) _
    have := h.row _ e
    show False
    have e2 : (⟨w.heap.size, j, none⟩ : Addr).block = w.heap.size := rfl
    omega
theorem St2.congr {w wA : World} {n H : Nat} {wr : World} {f f' : Nat → Int} {v : Value} {zs : List Int} (h : St2 w wA n H wr f v zs) (e : ∀ k, k < n → f k = f' k) : St2 w wA n H wr f' v zs :=
  ⟨h.frm, h.waits.congr (fun k hk => by rw [e k hk]), h.heap, h.hp, h.row, h.lt, h.le⟩

/-- .. and the slice 'order', which holds P. -/
structure St3 (w wA : World) (n H O : Nat) (wr : World) (f : Nat → Int) (v : Value) (zs : List Int) (P : List Nat) : Prop where
  st : St2 w wA n H wr f v zs
  ord : Own wr 0 (.slice (some ⟨O, 0, none⟩) P.length n) (ints P)
  one : v.ownBlock ≠ some O
  lo : wA.heap.size ≤ O
  oh : O ≠ H

theorem St3.tch {w wA : World} {n H O : Nat} {wr : World} {f : Nat → Int} {v : Value} {zs : List Int} {P : List Nat} (h : St3 w wA n H O wr f v zs P) : ¬ Tch H v O := by
  rintro (e | e)
  · exact h.oh e
  · exact h.one e.symm
theorem St3.push {w wA : World} {n H O : Nat} {wr w' : World} {f : Nat → Int} {v v' : Value} {zs zs' : List Int} {P : List Nat} (h : St3 w wA n H O wr f v zs P) (ha : HeapAt w' H v' zs') (hh : Hp zs' zs'.length) (hf : Frm (Tch H v) wr w')
    (hv : v'.ownBlock = v.ownBlock ∨ ∃ g, v'.ownBlock = some g ∧ wr.heap.size ≤ g) : St3 w wA n H O w' f v' zs' P :=
  ⟨h.st.push ha hh hf hv, h.ord.same (fun k hk => by obtain rfl := Option.some.inj hk; exact hf.block _ (h.ord.lt _ rfl).2 h.tch), fun e => by
    rcases hv with e1 | ⟨g, e1, hg⟩
    · exact h.one (e1 ▸ e)
    · rw [e1] at e
      obtain rfl := Option.some.inj e
      have : g < wr.heap.size := (h.ord.lt g rfl).2
      omega, h.lo, h.oh⟩
theorem St3.store {w wA : World} {n H O : Nat} {wr : World} {f : Nat → Int} {v : Value} {zs : List Int} {P : List Nat} (h : St3 w wA n H O wr f v zs P) (j : Nat) (x : Int) : St3 w wA n H O (wr.setCell ⟨w.heap.size, j, none⟩ (.int .i64 x)) (updF f j x) v zs P :=
  ⟨h.st.store j x, h.ord.setOther (fun e => by have e' : O = w.heap.size := Option.some.inj e; have := h.lo; have := h.st.lt; omega) _, h.one, h.lo, h.oh⟩
theorem St3.congr {w wA : World} {n H O : Nat} {wr : World} {f f' : Nat → Int} {v : Value} {zs : List Int} {P : List Nat} (h : St3 w wA n H O wr f v zs P) (e : ∀ k, k < n → f k = f' k) : St3 w wA n H O wr f' v zs P :=
  ⟨h.st.congr e, h.ord, h.one, h.lo, h.oh⟩

/-- 'order = append(order, k)': there is room. -/
theorem St3.append {w wA : World} {n H O : Nat} {wr : World} {f : Nat → Int} {v : Value} {zs : List Int} {P : List Nat} (h : St3 w wA n H O wr f v zs P) (k : Nat) (hn : P.length < n) :
    ∃ w2, (Builtin.append_ #[25, 25] 25 #[.slice (some ⟨O, 0, none⟩) P.length n, .slice (some ⟨wr.heap.size, 0, none⟩) 1 1]).run Try.prog (wr.alloc (.cells #[.int .i64 (k : Int)] 3)) = .ok (.slice (some ⟨O, 0, none⟩) (P.length + 1) n) w2 ∧
      St3 w wA n H O w2 f v zs (P ++ [k]) := by
  obtain ⟨i0, hi, hz0, hz1, hz2⟩ := info_parts info3
  have hown : (wr.alloc (.cells #[.int .i64 (k : Int)] 3)).ownsRow 0 3 1 (.slice (some ⟨O, 0, none⟩) P.length n) P.length ((ints P).map (Value.int .i64)) := by
    have := h.ord.alloc (.cells #[.int .i64 (k : Int)] 3)
    rw [ints_len] at this
    exact this
  obtain ⟨w2, r1, r2, r3⟩ := run_append_fits (P := Try.prog) _ 0 25 25 3 i0 1 Try.underlying25 hi hz1 O P.length n _ hown ⟨wr.heap.size, 0, none⟩ 1 1 [.int .i64 (k : Int)] rfl (one_cells rfl (by simp [go_sem])) (by intro u hu; simp at hu; subst hu; rfl) (by omega)
  refine ⟨w2, r1, ?_⟩
  have hf : Frm (fun k => k = O) wr w2 := ((Frm.refl _ wr).alloc _).grown r3 (fun k hk => (Option.some.inj hk).symm)
  have hH := h.st.heap.lt
  have hOlt := (h.ord.lt _ rfl).2
  have hle := h.st.le
  have hlo := h.lo
  have hltA := h.st.lt
  refine ⟨⟨h.st.frm.then hf (fun i hi e => by omega), h.st.waits.frm hf (by omega), ⟨?_, ?_, h.st.heap.ne⟩, h.st.hp, h.st.row, h.st.lt, h.st.le⟩, ?_, h.one, h.lo, h.oh⟩
  · rw [hf.block H hH (fun e => h.oh e.symm)]; exact h.st.heap.box
  · refine h.st.heap.own.same fun m hm => hf.block m (h.st.heap.own.lt m hm).2 (fun e => h.one (e ▸ hm))
  · unfold Own
    rw [ints_snoc, List.length_append, List.map_append, List.length_append, ints_len]
    exact r2

/-- The start: an empty heap behind wA. -/
theorem st2_start {w wA : World} {Nb n : Nat} {D : Nat → List Nat} (h : St1 w Nb n D wA n 0) :
    St2 w wA n (wA.heap.size + 1) ((wA.alloc (.cells #[] 3)).alloc (.cells #[.slice (some ⟨wA.heap.size, 0, none⟩) 0 0] 32)) (fun k => ((D k).length : Int)) (.slice (some ⟨wA.heap.size, 0, none⟩) 0 0) [] := by
  have hgt := h.gt
  have hsz := h.size
  have hs1 : (wA.alloc (.cells #[] 3)).heap.size = wA.heap.size + 1 := by show (wA.heap.push _).size = _; simp
  have hfr : Frm (fun k => k = w.heap.size ∨ wA.heap.size ≤ k) wA ((wA.alloc (.cells #[] 3)).alloc (.cells #[.slice (some ⟨wA.heap.size, 0, none⟩) 0 0] 32)) := ((Frm.refl _ wA).alloc _).alloc _
  refine ⟨hfr, ?_, ⟨?_, ?_, ?_⟩, fun k _ hk => absurd hk (Nat.not_lt_zero k), ?_, by omega, by omega⟩
  · have hw := h.waits
    have e1 : ((wA.alloc (.cells #[] 3)).alloc (.cells #[.slice (some ⟨wA.heap.size, 0, none⟩) 0 0] 32)).heap[w.heap.size]? = wA.heap[w.heap.size]? := by
      rw [Below.heap_alloc _ _ _ (by rw [hs1]; omega), Below.heap_alloc _ _ _ (by omega)]
    refine (hw.same e1).congr (fun k hk => ?_)
    unfold wt
    rw [if_pos hk]
  · have := heap_alloc_new (wA.alloc (.cells #[] 3)) (.cells #[.slice (some ⟨wA.heap.size, 0, none⟩) 0 0] 32)
    rw [hs1] at this
    exact this
  · refine ⟨rfl, .inr ⟨wA.heap.size, 0, #[], rfl, Nat.zero_le _, ?_, Nat.le_refl _, by unfold maxLen; omega, rfl, rfl⟩⟩
    rw [Below.heap_alloc _ _ _ (by rw [hs1]; omega)]
    exact heap_alloc_new wA _
  · intro e
    have := Option.some.inj e
    have e2 : (⟨wA.heap.size, 0, none⟩ : Addr).block = wA.heap.size := rfl
    omega
  · intro k hk
    have := Option.some.inj hk
    have e2 : (⟨wA.heap.size, 0, none⟩ : Addr).block = wA.heap.size := rfl
    omega

/-- 'order := make([]int, 0, n)'. -/
theorem st3_start {w wA : World} {n H : Nat} {wr w' : World} {f : Nat → Int} {v : Value} {zs : List Int} (h : St2 w wA n H wr f v zs) (hown : w'.ownsRow wr.heap.size 3 1 (.slice (some ⟨wr.heap.size, 0, none⟩) 0 n) 0 []) (hg : wr.grownBy w' none) :
    St3 w wA n H wr.heap.size w' f v zs [] := by
  have hf : Frm (fun _ => False) wr w' := (Frm.refl _ wr).grown hg (fun k hk => by cases hk)
  have hH := h.heap.lt
  refine ⟨⟨h.frm.then hf (fun i hi e => e.elim), h.waits.frm hf (fun e => e), ⟨?_, ?_, h.heap.ne⟩, h.hp, h.row, h.lt, h.le⟩, owns_mono hown (Nat.zero_le _), ?_, h.frm.size, by omega⟩
  · rw [hf.block H hH (fun e => e)]; exact h.heap.box
  · exact h.heap.own.same fun m hm => hf.block m (h.heap.own.lt m hm).2 (fun e => e)
  · intro e
    have := (h.heap.own.lt _ e).2
    omega

theorem Frm.cell {S : Nat → Prop} {a b : World} (h : Frm S a b) {k o : Nat} (hk : k < a.heap.size) (hs : ¬ S k) : b.cell? ⟨k, o, none⟩ = a.cell? ⟨k, o, none⟩ := World.cell?_of_block (w := a) (h.block k hk hs)

/-- 'next[j]', read. -/
theorem next_reads {w wA : World} {Nb n : Nat} {D : Nat → List Nat} (h : St1 w Nb n D wA n 0) (j : Nat) (hj : j < n) :
    ∃ ao cap, wA.cell? ⟨Nb, j, none⟩ = some (.slice ao (nx D n j).length cap) ∧ Nb < wA.heap.size ∧ w.heap.size < Nb ∧
      ∀ t, t < (nx D n j).length → ∃ g, ao = some ⟨g, 0, none⟩ ∧ w.heap.size < g ∧ g < wA.heap.size ∧ wA.cell? ⟨g, t, none⟩ = some (.int .i64 (((nx D n j).getD t 0 : Nat) : Int)) := by
  obtain ⟨_, _, ⟨vs, hnx⟩, hsz, hgt⟩ := h
  have hL : nt D n 0 j = nx D n j := by unfold nt; simp
  have hown := hnx.own j hj
  rw [hL] at hown
  have hc := hnx.row.cell j hj
  rcases hown.2 with ⟨hv, hl⟩ | ⟨g, cap, cur, hv, hb, hg, hle, _⟩
  · rw [ints_len] at hl
    refine ⟨none, 0, by rw [hc, hv, hl], by omega, hgt, fun t ht => by omega⟩
  · refine ⟨some ⟨g, 0, none⟩, cap, by rw [hc, hv, ints_len], by omega, hgt, fun t ht => ⟨g, rfl, by omega, lt_of_block hg, ?_⟩⟩
    obtain ⟨g2, cap2, hv2, _, _, _, hcells, _⟩ := hown.shape (by rw [ints_len]; omega)
    rw [hv] at hv2
    simp only [Value.slice.injEq, Option.some.injEq, Addr.mk.injEq, and_true, true_and] at hv2
    obtain ⟨rfl, _⟩ := hv2
    rw [hcells t (by rw [ints_len]; exact ht), ints_getD _ _ ht]

def wm (n : Nat) (D : Nat → List Nat) (P : List Nat) (a t k : Nat) : Int := (cnt D k P : Int) - (((nx D n a).take t).count k : Int)
theorem wm_zero (n : Nat) (D : Nat → List Nat) (P : List Nat) (a k : Nat) : (cnt D k P : Int) = wm n D P a 0 k := by unfold wm; simp
theorem wm_end (n : Nat) (D : Nat → List Nat) (P : List Nat) (a k : Nat) (ha : a ∉ P) (hk : k < n) : wm n D P a (nx D n a).length k = (cnt D k (P ++ [a]) : Int) := by
  unfold wm
  rw [List.take_length, nx_count D a k n hk, cnt_snoc D k P a ha]
  omega
theorem wm_step (n : Nat) (D : Nat → List Nat) (P : List Nat) (a t k : Nat) (ht : t < (nx D n a).length) : updF (wm n D P a t) ((nx D n a).getD t 0) (wm n D P a t ((nx D n a).getD t 0) - 1) k = wm n D P a (t + 1) k := by
  unfold updF wm
  rw [count_take_succ _ _ _ ht]
  by_cases e : k = (nx D n a).getD t 0
  · subst e
    rw [if_pos rfl, if_pos rfl]; omega
  · rw [if_neg e, if_neg (fun h => e h.symm)]; omega
theorem cnt_le (D : Nat → List Nat) (k : Nat) (P : List Nat) : cnt D k P ≤ (D k).length := List.length_filter_le _ _

/-- One that waits is told: what the walk wants of it. -/
theorem mid_facts {n : Nat} {D : Nat → List Nat} {P : List Nat} {a t : Nat} (hrun : IsRun n D P) (hready : Ready n D P a) (ht : t < (nx D n a).length) (hs : sumLen D n ≤ 1000000) :
    ∃ (k1 : Nat) (c : Int), (nx D n a).getD t 0 = k1 ∧ wm n D P a t k1 = c ∧ k1 < n ∧ 1 ≤ c ∧ c ≤ 1000000 ∧ (∀ k, updF (wm n D P a t) k1 (c - 1) k = wm n D P a (t + 1) k) ∧ ¬ Mid n D P a t k1 ∧
      (c - 1 = 0 → ∀ k, (Mid n D P a t k ∨ k = k1) ↔ Mid n D P a (t + 1) k) ∧ (c - 1 ≠ 0 → ∀ k, Mid n D P a t k ↔ Mid n D P a (t + 1) k) := by
  obtain ⟨h1, h2, h3, h4⟩ := mid_step n D P a t hrun hready ht
  have hst := fun k => wm_step n D P a t k ht
  have hct := count_take_succ (nx D n a) t ((nx D n a).getD t 0) ht
  rw [if_pos rfl] at hct
  obtain ⟨k1, hk1⟩ : ∃ k1, (nx D n a).getD t 0 = k1 := ⟨_, rfl⟩
  rw [hk1] at h1 h2 h3 h4 hst hct
  have hle := Nat.le_trans (cnt_le D k1 P) (Nat.le_trans (len_le_sum D k1 n h1) hs)
  refine ⟨k1, wm n D P a t k1, hk1, rfl, h1, by unfold wm; omega, by unfold wm; omega, hst, h3, fun hz k => ?_, fun hz k => ?_⟩
  · rw [h4 k]
    have hz' : cnt D k1 P = ((nx D n a).take (t + 1)).count k1 := by unfold wm at hz; omega
    constructor
    · rintro (h | rfl)
      · exact Or.inl h
      · exact Or.inr ⟨rfl, hz'⟩
    · rintro (h | ⟨h, _⟩)
      · exact Or.inl h
      · exact Or.inr h
  · rw [h4 k]
    constructor
    · intro h; exact Or.inl h
    · rintro (h | ⟨rfl, h⟩)
      · exact h
      · exfalso; apply hz; unfold wm; omega

def sliceLen : Value → Nat
  | .slice _ n _ => n
  | _ => 0
end Go.Proofs.Qxb6615102a
