import Derived.Test.Qxb6615102aHeapOps
import Derived.Test.Qxb6615102aOrderPlain
namespace Go.Proofs.Qxb6615102a
open Go.RowKit
set_option linter.unusedVariables false

/-- A slice that reads xs, out of memory below B. -/
def SlAt (w : World) (B : Nat) (v : Value) (xs : List Nat) : Prop :=
  ∃ ao cap, v = .slice ao xs.length cap ∧ ∀ t, t < xs.length → ∃ b o, ao = some ⟨b, o, none⟩ ∧ b < B ∧ w.cell? ⟨b, o + t, none⟩ = some (.int .i64 ((xs.getD t 0 : Nat) : Int))
/-- A slice of slices, of which the first n are read. -/
def RowsV (w : World) (B : Nat) (vl : Value) (n : Nat) (sv : Nat → Value) (D : Nat → List Nat) : Prop :=
  ∀ i, i < n → ∃ b off N cap, vl = .slice (some ⟨b, off, none⟩) N cap ∧ b < B ∧ i < N ∧ N ≤ 2000000 ∧ w.cell? ⟨b, off + i, none⟩ = some (sv i) ∧ SlAt w B (sv i) (D i)

theorem SlAt.below {w w' : World} {B B' : Nat} {v : Value} {xs : List Nat} (h : SlAt w B v xs) (hb : Below B' w w') (hB : B ≤ B') : SlAt w' B v xs := by
  obtain ⟨ao, cap, e, h⟩ := h
  refine ⟨ao, cap, e, fun t ht => ?_⟩
  obtain ⟨b, o, e1, h1, h2⟩ := h t ht
  exact ⟨b, o, e1, h1, (hb.cell (p := ⟨b, o + t, none⟩) (Nat.lt_of_lt_of_le h1 hB)).trans h2⟩
theorem SlAt.mono {w : World} {B B' : Nat} {v : Value} {xs : List Nat} (h : SlAt w B v xs) (hB : B ≤ B') : SlAt w B' v xs := by
  obtain ⟨ao, cap, e, h⟩ := h
  refine ⟨ao, cap, e, fun t ht => ?_⟩
  obtain ⟨b, o, e1, h1, h2⟩ := h t ht
  exact ⟨b, o, e1, by omega, h2⟩
theorem RowsV.below {w w' : World} {B B' : Nat} {vl : Value} {n : Nat} {sv : Nat → Value} {D : Nat → List Nat} (h : RowsV w B vl n sv D) (hb : Below B' w w') (hB : B ≤ B') : RowsV w' B vl n sv D := by
  intro i hi
  obtain ⟨b, off, N, cap, h1, h2, h3, h4, h5, h6⟩ := h i hi
  exact ⟨b, off, N, cap, h1, h2, h3, h4, (hb.cell (p := ⟨b, off + i, none⟩) (Nat.lt_of_lt_of_le h2 hB)).trans h5, h6.below hb hB⟩
theorem RowsV.mono {w : World} {B B' : Nat} {vl : Value} {n : Nat} {sv : Nat → Value} {D : Nat → List Nat} (h : RowsV w B vl n sv D) (hB : B ≤ B') : RowsV w B' vl n sv D := by
  intro i hi
  obtain ⟨b, off, N, cap, h1, h2, h3, h4, h5, h6⟩ := h i hi
  exact ⟨b, off, N, cap, h1, by omega, h3, h4, h5, h6.mono hB⟩

/-- The block g is a row of n one-cell elements c 0, c 1, .. -/
def RowAt (w : World) (g : Nat) (ty : TypeId) (n : Nat) (c : Nat → Value) : Prop := ∃ cur : Array Value, w.heap[g]? = some (.cells cur ty (0, 0)) ∧ cur.size = n ∧ ∀ k, k < n → cur[k]? = some (c k)
def upd (c : Nat → Value) (j : Nat) (u : Value) (k : Nat) : Value := if k = j then u else c k

theorem RowAt.cell {w : World} {g : Nat} {ty : TypeId} {n : Nat} {c : Nat → Value} (h : RowAt w g ty n c) (k : Nat) (hk : k < n) : w.cell? ⟨g, k, none⟩ = some (c k) := by
  obtain ⟨cur, h1, h2, h3⟩ := h
  rw [cell_of_row w g k cur ty (0, 0) h1]; exact h3 k hk
theorem RowAt.free {w : World} {g : Nat} {ty : TypeId} {n : Nat} {c : Nat → Value} (h : RowAt w g ty n c) (k : Nat) : w.frozen? ⟨g, k, none⟩ = false := by
  obtain ⟨cur, h1, h2, h3⟩ := h
  exact frozen_of_row w g k cur ty h1
theorem RowAt.lt {w : World} {g : Nat} {ty : TypeId} {n : Nat} {c : Nat → Value} (h : RowAt w g ty n c) : g < w.heap.size := by
  obtain ⟨cur, h1, _⟩ := h; exact lt_of_block h1
theorem RowAt.same {w w' : World} {g : Nat} {ty : TypeId} {n : Nat} {c : Nat → Value} (h : RowAt w g ty n c) (e : w'.heap[g]? = w.heap[g]?) : RowAt w' g ty n c := by
  obtain ⟨cur, h1, h2⟩ := h; exact ⟨cur, e.trans h1, h2⟩
theorem RowAt.frm {w w' : World} {S : Nat → Prop} {g : Nat} {ty : TypeId} {n : Nat} {c : Nat → Value} (h : RowAt w g ty n c) (hf : Frm S w w') (hs : ¬ S g) : RowAt w' g ty n c := h.same (hf.block g h.lt hs)
theorem RowAt.store {w : World} {g : Nat} {ty : TypeId} {n : Nat} {c : Nat → Value} (h : RowAt w g ty n c) (j : Nat) (u : Value) : RowAt (w.setCell ⟨g, j, none⟩ u) g ty n (upd c j u) := by
  obtain ⟨cur, h1, h2, h3⟩ := h
  refine ⟨cur.setIfInBounds j u, heap_setCell_same w g j cur ty u h1, by simpa using h2, fun k hk => ?_⟩
  unfold upd
  rw [Array.getElem?_setIfInBounds]
  by_cases e : j = k
  · rw [if_pos e, if_pos e.symm, if_pos (by omega)]
  · rw [if_neg e, if_neg (fun h => e h.symm)]; exact h3 k hk
theorem RowAt.congr {w : World} {g : Nat} {ty : TypeId} {n : Nat} {c c' : Nat → Value} (h : RowAt w g ty n c) (e : ∀ k, k < n → c k = c' k) : RowAt w g ty n c' := by
  obtain ⟨cur, h1, h2, h3⟩ := h
  exact ⟨cur, h1, h2, fun k hk => by rw [h3 k hk, e k hk]⟩

theorem made_row {w : World} {g base : Nat} {ty : TypeId} {n : Nat} {z : Value} (h : w.ownsRow base ty 1 (.slice (some ⟨g, 0, none⟩) n n) n (madeCells #[z] n).toList) : RowAt w g ty n (fun _ => z) := by
  rcases h.2 with ⟨h', _⟩ | ⟨g', cap', cur, h', _, hg, _, _, hcs, ht⟩
  · cases h'
  · simp only [Value.slice.injEq, Option.some.injEq, Addr.mk.injEq, and_true, true_and] at h'
    obtain ⟨rfl, rfl⟩ := h'
    refine ⟨cur, hg, by simpa using hcs, fun k hk => ?_⟩
    have : cur.toList.take (n * 1) = cur.toList := List.take_of_length_le (by simp; omega)
    rw [this] at ht
    have hc : cur = madeCells #[z] n := by
      rw [← Array.toArray_toList (xs := cur), ht, Array.toArray_toList]
    rw [hc, ← Array.getElem?_toList, toList_madeCells_one, List.getElem?_replicate, if_pos (by omega)]

theorem Own.frm {w w' : World} {S : Nat → Prop} {base : Nat} {v : Value} {zs : List Int} (h : Own w base v zs) (hf : Frm S w w') (hs : ∀ k, v.ownBlock = some k → ¬ S k) : Own w' base v zs :=
  h.same fun k hk => hf.block k (h.lt k hk).2 (hs k hk)
theorem Own.nil (w : World) (base : Nat) : Own w base (.slice none 0 0) [] := World.ownsRow_nil w base 3 1

def ints (l : List Nat) : List Int := l.map Int.ofNat
theorem ints_len (l : List Nat) : (ints l).length = l.length := by simp [ints]
theorem ints_snoc (l : List Nat) (x : Nat) : ints (l ++ [x]) = ints l ++ [(x : Int)] := by simp [ints]
theorem ints_getD (l : List Nat) (i : Nat) (h : i < l.length) : (ints l).getD i 0 = ((l.getD i 0 : Nat) : Int) := by
  unfold ints
  rw [List.getD_eq_getElem?_getD, List.getElem?_map, List.getD_eq_getElem?_getD, List.getElem?_eq_getElem h]
  rfl

/-- 'next': the block g, n slices, the j-th holds L j; their rows lie from base on, no two in one block. -/
structure NextAt (w : World) (g n base : Nat) (vs : Nat → Value) (L : Nat → List Nat) : Prop where
  row : RowAt w g 25 n vs
  own : ∀ j, j < n → Own w base (vs j) (ints (L j))
  apart : ∀ i j k, i < n → j < n → i ≠ j → (vs i).ownBlock = some k → (vs j).ownBlock ≠ some k
def updL (L : Nat → List Nat) (j : Nat) (l : List Nat) (k : Nat) : List Nat := if k = j then l else L k

/-- 'next[j] = append(next[j], x)'. -/
theorem next_append {w : World} {g n base : Nat} {vs : Nat → Value} {L : Nat → List Nat} (h : NextAt w g n base vs L) (hg : g < base) (hb : base ≤ w.heap.size) (j : Nat) (hj : j < n) (x : Nat) (hl : (L j).length ≤ 2000000) :
    ∃ g' n' c' w2, (Builtin.append_ #[25, 25] 25 #[vs j, .slice (some ⟨w.heap.size, 0, none⟩) 1 1]).run Try.prog (w.alloc (.cells #[.int .i64 (x : Int)] 3)) = .ok (.slice (some ⟨g', 0, none⟩) n' c') w2 ∧
      w2.cell? ⟨g, j, none⟩ = some (vs j) ∧ w2.frozen? ⟨g, j, none⟩ = false ∧
      NextAt (w2.setCell ⟨g, j, none⟩ (.slice (some ⟨g', 0, none⟩) n' c')) g n base (upd vs j (.slice (some ⟨g', 0, none⟩) n' c')) (updL L j (L j ++ [x])) ∧
      Frm (fun k => k = g ∨ base ≤ k) w (w2.setCell ⟨g, j, none⟩ (.slice (some ⟨g', 0, none⟩) n' c')) := by
  have hown : Own (w.alloc (.cells #[.int .i64 (x : Int)] 3)) base (vs j) (ints (L j)) := (h.own j hj).alloc _
  have hsz : (w.alloc (.cells #[.int .i64 (x : Int)] 3)).heap.size = w.heap.size + 1 := by show (w.heap.push _).size = _; simp
  obtain ⟨v', w2, hap, ho, hgr, hv⟩ := append_one 25 25 Try.underlying25 _ base (vs j) (ints (L j)) x hown (by rw [ints_len]; exact hl) (by rw [hsz]; omega) ⟨w.heap.size, 0, none⟩ (by simp [go_sem]) rfl
  obtain ⟨g', c', rfl, hbg, hgl, _, _, _⟩ := ho.shape (by simp)
  have hglt := h.row.lt
  have hrow1 : RowAt (w.alloc (.cells #[.int .i64 (x : Int)] 3)) g 25 n vs := h.row.same (Below.heap_alloc w _ g hglt)
  have hgne : some g ≠ (vs j).ownBlock := fun e => by have := ((h.own j hj).lt g e.symm).1; omega
  have hrow2 : RowAt w2 g 25 n vs := hrow1.same (hgr.block g (by rw [hsz]; omega) hgne)
  have hf2 : Frm (fun k => k = g ∨ base ≤ k) w w2 := ((Frm.refl _ w).alloc _).grown hgr (fun k hk => Or.inr ((h.own j hj).lt k hk).1)
  refine ⟨g', _, c', w2, hap, hrow2.cell j hj, hrow2.free j, ⟨hrow2.store j _, fun i hi => ?_, fun i i' k hi hi' hne => ?_⟩, hf2.setCell (Or.inl rfl) _⟩
  · unfold upd updL
    by_cases e : i = j
    · rw [if_pos e, if_pos e, ints_snoc]
      exact ownsRow_setCell_below ho (by show g < base; omega) _
    · rw [if_neg e, if_neg e]
      refine ownsRow_setCell_below ?_ (by show g < base; omega) _
      have hoi : Own (w.alloc (.cells #[.int .i64 (x : Int)] 3)) base (vs i) (ints (L i)) := (h.own i hi).alloc _
      refine Own.same hoi fun k hk => ?_
      have hkl := (hoi.lt k hk).2
      exact hgr.block k hkl (fun e' => h.apart i j k hi hj e hk e'.symm)
  · have hnew : ∀ m, m < n → m ≠ j → ∀ k, (vs m).ownBlock = some k → k ≠ g' := by
      intro m hm hmj k hk e
      rcases hv with e1 | ⟨g2, e1, e2⟩
      · exact h.apart m j k hm hj hmj hk (by rw [← e1]; exact congrArg some e.symm)
      · have e3 : g' = g2 := Option.some.inj e1
        have := ((h.own m hm).lt k hk).2
        rw [hsz] at e2
        omega
    unfold upd
    by_cases e1 : i = j
    · by_cases e2 : i' = j
      · omega
      · rw [if_pos e1, if_neg e2]
        intro hk hk'
        exact hnew i' hi' e2 k hk' (Option.some.inj hk).symm
    · rw [if_neg e1]
      by_cases e2 : i' = j
      · rw [if_pos e2]
        intro hk hk'
        exact hnew i hi e1 k hk (Option.some.inj hk').symm
      · rw [if_neg e2]
        exact h.apart i i' k hi hi' hne

end Go.Proofs.Qxb6615102a
