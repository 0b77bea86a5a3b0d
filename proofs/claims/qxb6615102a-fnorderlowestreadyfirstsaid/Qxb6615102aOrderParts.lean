import Derived.Test.Qxb6615102aRowsMem
namespace Go.Proofs.Qxb6615102a
open Go.RowKit
set_option linter.unusedVariables false

theorem info25 : (Try.prog.info? 25).map (fun i => (i.zero, i.size, i.bytes)) = some (some (.slice none 0 0), 1, 24) := by kernel_rfl

set_option maxHeartbeats 400000 in
theorem after_any (C b off N cap i : Nat) (sv : Value) (w : World) (hN : N ≤ 2000000) (hi : i < N) (hc : w.cell? ⟨C, 0, none⟩ = some (.slice (some ⟨b, off, none⟩) N cap)) (hr : w.cell? ⟨b, off + i, none⟩ = some sv) :
    Calls Try.prog 13 #[.int .i64 i, .pointer (some ⟨C, 0, none⟩)] w fun e w' => e = .returned sv ∧ w' = w := by
  have hi2 : (i : Int) < (N : Int) := by omega
  go_enter Try.func13, Try.ntmps13
  go_wp2
  go_ret
  exact ⟨rfl, rfl⟩

/-- waits, while they are counted: the first i are, of the i-th t. -/
def wt (D : Nat → List Nat) (i t k : Nat) : Value := .int .i64 (if k < i then ((D k).length : Int) else if k = i then (t : Int) else 0)
/-- who waits for whom, while it is gathered. -/
def nt (D : Nat → List Nat) (i t j : Nat) : List Nat := nx D i j ++ List.replicate (((D i).take t).count j) i

/-- The memory while 'waits' and 'next' are filled. -/
structure St1 (w : World) (Nb n : Nat) (D : Nat → List Nat) (wr : World) (i t : Nat) : Prop where
  below : Below w.heap.size w wr
  waits : RowAt wr w.heap.size 3 n (wt D i t)
  next : ∃ vs, NextAt wr Nb n (Nb + 1) vs (nt D i t)
  size : Nb + 1 ≤ wr.heap.size
  gt : w.heap.size < Nb

theorem wt_step (D : Nat → List Nat) (i t k : Nat) : upd (wt D i t) i (.int .i64 ((t : Int) + 1)) k = wt D i (t + 1) k := by
  unfold upd wt
  by_cases e : k = i
  · subst e; simp
  · rw [if_neg e]; simp [e]
theorem wt_next (D : Nat → List Nat) (i k : Nat) : wt D i (D i).length k = wt D (i + 1) 0 k := by
  unfold wt
  by_cases e : k = i
  · subst e; simp
  · by_cases h : k < i
    · rw [if_pos h, if_pos (by omega)]
    · rw [if_neg h, if_neg e, if_neg (by omega)]; simp
theorem nt_step (D : Nat → List Nat) (i t j : Nat) (ht : t < (D i).length) : updL (nt D i t) ((D i).getD t 0) (nt D i t ((D i).getD t 0) ++ [i]) j = nt D i (t + 1) j := by
  unfold updL nt
  have := count_take_succ (D i) t j ht
  by_cases e : j = (D i).getD t 0
  · subst e
    rw [if_pos rfl] at this
    rw [if_pos rfl, this, List.replicate_succ', List.append_assoc]
  · rw [if_neg e, this, if_neg (fun h => e h.symm), Nat.add_zero]
theorem nt_next (D : Nat → List Nat) (i j : Nat) : nt D i (D i).length j = nt D (i + 1) 0 j := by
  unfold nt
  rw [List.take_length, List.take_zero, List.count_nil, nx_succ]; simp
theorem nt_zero (D : Nat → List Nat) (j : Nat) : nt D 0 0 j = [] := by unfold nt nx; simp
theorem nt_len (D : Nat → List Nat) (i t j n : Nat) (h : i < n) : (nt D i t j).length ≤ sumLen D n := by
  unfold nt
  rw [List.length_append, List.length_replicate]
  have h1 := nx_le D j i
  have h2 := count_take_le (D i) t j
  have h3 := List.count_le_length (a := j) (l := D i)
  have h4 := sumLen_mono D (i + 1) n h
  rw [sumLen_succ] at h4
  omega
theorem NextAt.congr {w : World} {g n base : Nat} {vs : Nat → Value} {L L' : Nat → List Nat} (h : NextAt w g n base vs L) (e : ∀ j, L j = L' j) : NextAt w g n base vs L' :=
  ⟨h.row, fun j hj => by rw [← e j]; exact h.own j hj, h.apart⟩
theorem NextAt.frm {w w' : World} {S : Nat → Prop} {g n base : Nat} {vs : Nat → Value} {L : Nat → List Nat} (h : NextAt w g n base vs L) (hf : Frm S w w') (hg : ¬ S g) (hs : ∀ k, base ≤ k → ¬ S k) : NextAt w' g n base vs L :=
  ⟨h.row.frm hf hg, fun j hj => (h.own j hj).frm hf (fun k hk => hs k ((h.own j hj).lt k hk).1), h.apart⟩

/-- One dependency taken in. -/
theorem st1_step {w wr : World} {Nb n : Nat} {D : Nat → List Nat} {i t : Nat} (h : St1 w Nb n D wr i t) (hi : i < n) (ht : t < (D i).length) (hj : (D i).getD t 0 < n) (hs : sumLen D n ≤ 1000000) :
    ∃ v g' n' c' w2, wr.cell? ⟨w.heap.size, i, none⟩ = some (.int .i64 t) ∧ wr.frozen? ⟨w.heap.size, i, none⟩ = false ∧
      (wr.setCell ⟨w.heap.size, i, none⟩ (.int .i64 ((t : Int) + 1))).cell? ⟨Nb, (D i).getD t 0, none⟩ = some v ∧
      (Builtin.append_ #[25, 25] 25 #[v, .slice (some ⟨wr.heap.size, 0, none⟩) 1 1]).run Try.prog ((wr.setCell ⟨w.heap.size, i, none⟩ (.int .i64 ((t : Int) + 1))).alloc (.cells #[.int .i64 (i : Int)] 3)) = .ok (.slice (some ⟨g', 0, none⟩) n' c') w2 ∧
      w2.cell? ⟨Nb, (D i).getD t 0, none⟩ = some v ∧ w2.frozen? ⟨Nb, (D i).getD t 0, none⟩ = false ∧
      St1 w Nb n D (w2.setCell ⟨Nb, (D i).getD t 0, none⟩ (.slice (some ⟨g', 0, none⟩) n' c')) i (t + 1) := by
  obtain ⟨hb, hw, ⟨vs, hnx⟩, hsz, hgt⟩ := h
  have hwi : wt D i t i = .int .i64 t := by unfold wt; simp
  have hc1 := hw.cell i hi
  rw [hwi] at hc1
  have hfa : Frm (fun k => k = w.heap.size) wr (wr.setCell ⟨w.heap.size, i, none⟩ (.int .i64 ((t : Int) + 1))) := Frm.setCell (S := fun k => k = w.heap.size) (Frm.refl _ wr) rfl _
  have hwa := (hw.store i (.int .i64 ((t : Int) + 1))).congr (fun k _ => wt_step D i t k)
  have hnxa := hnx.frm hfa (by omega) (fun k hk => by omega)
  have hsza : (wr.setCell ⟨w.heap.size, i, none⟩ (.int .i64 ((t : Int) + 1))).heap.size = wr.heap.size := by simp [World.setCell]
  obtain ⟨g', n', c', w2, r1, r2, r3, r4, r5⟩ := next_append hnxa (Nat.lt_succ_self Nb) (by rw [hsza]; exact hsz) ((D i).getD t 0) hj i (by have := nt_len D i t ((D i).getD t 0) n hi; omega)
  rw [hsza] at r1
  refine ⟨vs ((D i).getD t 0), g', n', c', w2, hc1, hw.free i, hnxa.row.cell _ hj, r1, r2, r3, ⟨?_, ?_, ⟨_, r4.congr (nt_step D i t · ht)⟩, ?_, hgt⟩⟩
  · refine hb.trans (((hfa.below (B := w.heap.size) (by omega) (fun k hk => by omega))).trans (r5.below (by rw [hsza]; omega) (fun k hk => by omega)))
  · exact hwa.frm r5 (by omega)
  · have := r5.size
    rw [hsza] at this
    omega

theorem St1.next_row {w wr : World} {Nb n : Nat} {D : Nat → List Nat} {i : Nat} (h : St1 w Nb n D wr i (D i).length) : St1 w Nb n D wr (i + 1) 0 := by
  obtain ⟨hb, hw, ⟨vs, hnx⟩, hsz, hgt⟩ := h
  exact ⟨hb, hw.congr (fun k _ => wt_next D i k), ⟨vs, hnx.congr (nt_next D i)⟩, hsz, hgt⟩
end Go.Proofs.Qxb6615102a
