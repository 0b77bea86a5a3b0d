import Derived.Test.Qxb6615102aProg
import Derived.Test.Qxb6615102aHeapPlain
import Derived.WalkKit
import Derived.WalkSpells
import Derived.LoopTactic
import Derived.Deep.QuietTactic
import Derived.BigQuiet
import Derived.OwnWalk
import Derived.Laws.OwnMore
import Derived.ArgAppend
import Derived.RegionTactic
import Derived.Deep.RegionLaw
import Derived.ChangeAlike
namespace Go.Proofs.Qxb6615102a
open Go.RowKit
set_option linter.unusedVariables false

theorem hide {p : Prop} (h : p) : Hid p := h
theorem unhide {p : Prop} (h : Hid p) : p := h
theorem ret_int {k : IntKind} {a b : Int} (h : a = b) : Ending.returned (.int k a) = .returned (.int k b) := by rw [h]
theorem ret_bool {a b : Bool} (h : a = b) : Ending.returned (.bool a) = .returned (.bool b) := by rw [h]
theorem drawn_more {w wr : World} (h : Hid (∃ q, wr = w.drewN q)) (n : Nat) : ∃ q, wr.drewN n = w.drewN q := by
  obtain ⟨q, rfl⟩ := h
  exact ⟨q + n, World.drewN_drewN _ _ _⟩

/-! ### the methods of *lowest, looked up -/
theorem load32 (a : Addr) (v : Value) (w : World) (h : w.cell? a = some v) : (loadVar 32 a).run Try.prog w = .ok v w := by
  simp [go_sem, h]
theorem wrap_ptr {P : Program} (xt : TypeId) (a : Addr) (n : String) (w : World) : (Builtin.ssaWrapNilChk_ #[xt] xt #[.pointer (some a), strVal "", strVal n]).run P w = .ok (.pointer (some a)) w := rfl
theorem recv_ptr {P : Program} (xt elem : TypeId) (hu : P.underlying xt = some (.pointer elem)) (a : Addr) (n : String) (w : World) (v : Value) (hl : (loadVar elem a).run P w = .ok v w) :
    (receiverAt xt (.val (.pointer (some a))) false (some n)).run P w = .ok v w := by
  unfold receiverAt
  rw [Sem.run_bind, run_underlying hu]
  simp only [Result.andThen, Place.get, Sem.run_bind, Sem.run_pure, wrap_ptr]
  exact hl
theorem find_m (nm : String) (f : Nat) (h : (Try.prog.info? 31).map (fun i => (i.methods.find? (·.name == nm)).map (fun m => (m.path, m.func))) = some (some (#[], some (f, false)))) (a : Addr) (v : Value) (w : World) (hc : w.cell? a = some v) :
    (method 160 31 (.pointer (some a)) nm).run Try.prog w = .ok (f, v) w := by
  cases hi : Try.prog.info? 31 with
  | none => rw [hi] at h; cases h
  | some i =>
    rw [hi] at h
    simp only [Option.map_some, Option.some.injEq] at h
    cases hm : i.methods.find? (·.name == nm) with
    | none => rw [hm] at h; cases h
    | some m =>
      rw [hm] at h
      simp only [Option.map_some, Option.some.injEq, Prod.mk.injEq] at h
      obtain ⟨h1, h2⟩ := h
      have e1 : (typeInfo 31).run Try.prog w = .ok i w := by simp [typeInfo, hi]
      unfold method
      rw [Sem.run_bind, e1]
      simp only [Result.andThen, hm, h1, h2]
      rw [Sem.run_bind]
      have e2 : (follow (#[] : Array FieldStep).toList 31 (.val (.pointer (some a)))).run Try.prog w = .ok (31, .val (.pointer (some a))) w := rfl
      rw [e2]
      simp only [Result.andThen]
      rw [Sem.run_bind]
      rw [show (#[] : Array FieldStep).isEmpty = true from rfl]
      simp only [if_true]
      rw [recv_ptr 31 32 Try.underlying31 a _ w v (load32 a v w hc)]
      rfl
theorem m_push (a : Addr) (w : World) : (method 160 31 (.pointer (some a)) "Push").run Try.prog w = .ok (37, .pointer (some a)) w := by kernel_rfl
theorem m_pop (a : Addr) (w : World) : (method 160 31 (.pointer (some a)) "Pop").run Try.prog w = .ok (36, .pointer (some a)) w := by kernel_rfl
theorem m_less (a : Addr) (v : Value) (w : World) (hc : w.cell? a = some v) : (method 160 31 (.pointer (some a)) "Less").run Try.prog w = .ok (35, v) w := find_m _ _ (by kernel_rfl) a v w hc
theorem m_swap (a : Addr) (v : Value) (w : World) (hc : w.cell? a = some v) : (method 160 31 (.pointer (some a)) "Swap").run Try.prog w = .ok (38, v) w := find_m _ _ (by kernel_rfl) a v w hc
theorem m_len (a : Addr) (v : Value) (w : World) (hc : w.cell? a = some v) : (method 160 31 (.pointer (some a)) "Len").run Try.prog w = .ok (15, v) w := find_m _ _ (by kernel_rfl) a v w hc

/-! ### the five methods -/
set_option maxHeartbeats 400000 in
theorem len_any (ao : Option Addr) (n cap : Nat) (w : World) :
    Calls Try.prog 15 #[.slice ao n cap] w fun e w' => e = .returned (.int .i64 n) ∧ w' = w := by
  go_enter Try.func15, Try.ntmps15
  go_wp2
  go_ret
  exact ⟨rfl, rfl⟩

set_option maxHeartbeats 400000 in
theorem less_any (g n cap i j : Nat) (x y : Int) (w : World) (hn : n ≤ 65537) (hi : i < n) (hj : j < n) (ci : w.cell? ⟨g, i, none⟩ = some (.int .i64 x)) (cj : w.cell? ⟨g, j, none⟩ = some (.int .i64 y)) :
    Calls Try.prog 35 #[.slice (some ⟨g, 0, none⟩) n cap, .int .i64 i, .int .i64 j] w fun e w' => e = .returned (.bool (decide (x < y))) ∧ ∃ q, w' = w.drewN q := by
  have hi2 : (i : Int) < (n : Int) := by omega
  have hj2 : (j : Int) < (n : Int) := by omega
  go_enter Try.func35, Try.ntmps35
  go_wp2
  go_quiet (fail)
  go_wp2
  go_ret
  exact ⟨rfl, _, rfl⟩

set_option maxHeartbeats 400000 in
theorem swap_ne (g n cap i j : Nat) (x y : Int) (w : World) (hn : n ≤ 65537) (hi : i < n) (hj : j < n) (hij : i ≠ j) (ci : w.cell? ⟨g, i, none⟩ = some (.int .i64 x)) (cj : w.cell? ⟨g, j, none⟩ = some (.int .i64 y)) (fi : w.frozen? ⟨g, i, none⟩ = false) (fj : w.frozen? ⟨g, j, none⟩ = false) :
    Calls Try.prog 38 #[.slice (some ⟨g, 0, none⟩) n cap, .int .i64 i, .int .i64 j] w fun e w' => e = .returned (.tuple #[]) ∧ w' = ((w.setCell ⟨g, i, none⟩ (.int .i64 y)).setCell ⟨g, j, none⟩ (.int .i64 x)).drew := by
  have hi2 : (i : Int) < (n : Int) := by omega
  have hj2 : (j : Int) < (n : Int) := by omega
  go_enter Try.func38, Try.ntmps38
  go_wp2
  go_region
  all_goals (go_end0; exact ⟨rfl, rfl⟩)

/-! ### what the memory holds -/
/-- w' is w but for the blocks of S, for new blocks and for draws. -/
structure Frm (S : Nat → Prop) (w w' : World) : Prop where
  os : w'.os = w.os
  tape : w'.tape = w.tape
  output : w'.output = w.output
  size : w.heap.size ≤ w'.heap.size
  block : ∀ k, k < w.heap.size → ¬ S k → w'.heap[k]? = w.heap[k]?
theorem Frm.refl (S : Nat → Prop) (w : World) : Frm S w w := ⟨rfl, rfl, rfl, Nat.le_refl _, fun _ _ _ => rfl⟩
theorem Frm.trans {S : Nat → Prop} {a b c : World} (h : Frm S a b) (k : Frm S b c) : Frm S a c :=
  ⟨k.os.trans h.os, k.tape.trans h.tape, k.output.trans h.output, Nat.le_trans h.size k.size, fun i hi hs => (k.block i (Nat.lt_of_lt_of_le hi h.size) hs).trans (h.block i hi hs)⟩
theorem Frm.mono {S T : Nat → Prop} {a b : World} (h : Frm S a b) (hst : ∀ k, k < a.heap.size → S k → T k) : Frm T a b :=
  ⟨h.os, h.tape, h.output, h.size, fun i hi hs => h.block i hi (fun s => hs (hst i hi s))⟩
theorem Frm.drewN {S : Nat → Prop} {a b : World} (h : Frm S a b) (q : Nat) : Frm S a (b.drewN q) := ⟨h.os, h.tape, h.output, h.size, h.block⟩
theorem Frm.drew {S : Nat → Prop} {a b : World} (h : Frm S a b) : Frm S a b.drew := ⟨h.os, h.tape, h.output, h.size, h.block⟩
theorem Frm.alloc {S : Nat → Prop} {a b : World} (h : Frm S a b) (o : Obj) : Frm S a (b.alloc o) :=
  h.trans ⟨rfl, rfl, rfl, by simp, fun k hk _ => Below.heap_alloc _ _ _ hk⟩
theorem Frm.setCell {S : Nat → Prop} {a b : World} (h : Frm S a b) {p : Addr} (hp : S p.block) (u : Value) : Frm S a (b.setCell p u) :=
  h.trans ⟨rfl, rfl, rfl, by simp [World.setCell], fun k hk hs => Below.heap_setCell _ _ _ _ (fun e => hs (e ▸ hp))⟩
theorem Frm.grown {S : Nat → Prop} {a b c : World} (h : Frm S a b) {row : Option Nat} (hg : b.grownBy c row) (hr : ∀ k, row = some k → S k) : Frm S a c :=
  h.trans ⟨hg.os, hg.tape, hg.output, hg.size, fun k hk hs => hg.block k hk (fun e => hs (hr k e.symm))⟩
theorem Frm.below {S : Nat → Prop} {B : Nat} {a b : World} (h : Frm S a b) (hB : B ≤ a.heap.size) (hs : ∀ k, k < B → ¬ S k) : Below B a b :=
  ⟨h.os, h.tape, h.output, h.size, fun k hk => h.block k (Nat.lt_of_lt_of_le hk hB) (hs k hk)⟩

/-- v is a slice of ints of the call's own that holds zs. -/
def Own (w : World) (base : Nat) (v : Value) (zs : List Int) : Prop := w.ownsRow base 3 1 v zs.length (zs.map (Value.int .i64))
/-- The block H holds the slice variable v, whose elements are zs. -/
structure HeapAt (w : World) (H : Nat) (v : Value) (zs : List Int) : Prop where
  box : w.heap[H]? = some (.cells #[v] 32 (0, 0))
  own : Own w 0 v zs
  ne : v.ownBlock ≠ some H
theorem Own.same {w w' : World} {base : Nat} {v : Value} {zs : List Int} (h : Own w base v zs) (e : ∀ k, v.ownBlock = some k → w'.heap[k]? = w.heap[k]?) : Own w' base v zs := by
  obtain ⟨h1, h2 | ⟨g, cap, cur, hv, hb, hg, r⟩⟩ := h
  · exact ⟨h1, .inl h2⟩
  · exact ⟨h1, .inr ⟨g, cap, cur, hv, hb, (e g (by rw [hv]; rfl)).trans hg, r⟩⟩
theorem Own.setOther {w : World} {base : Nat} {v : Value} {zs : List Int} (h : Own w base v zs) {a : Addr} (hne : v.ownBlock ≠ some a.block) (u : Value) : Own (w.setCell a u) base v zs :=
  h.same fun k hk => Below.heap_setCell _ _ _ _ (fun e => hne (e ▸ hk))
/-- What an operation on the heap may touch. -/
def Tch (H : Nat) (v : Value) (k : Nat) : Prop := k = H ∨ some k = v.ownBlock

theorem HeapAt.cell {w : World} {H : Nat} {v : Value} {zs : List Int} (h : HeapAt w H v zs) : w.cell? ⟨H, 0, none⟩ = some v := cell_of_one h.box
theorem HeapAt.free {w : World} {H : Nat} {v : Value} {zs : List Int} (h : HeapAt w H v zs) : w.frozen? ⟨H, 0, none⟩ = false := free_of_one h.box
theorem HeapAt.of_heap {w w' : World} {H : Nat} {v : Value} {zs : List Int} (h : HeapAt w H v zs) (e : w'.heap = w.heap) : HeapAt w' H v zs :=
  ⟨by rw [e]; exact h.box, by have := h.own; unfold Own World.ownsRow at *; rw [e]; exact this, h.ne⟩
theorem HeapAt.drewN {w : World} {H : Nat} {v : Value} {zs : List Int} (h : HeapAt w H v zs) (q : Nat) : HeapAt (w.drewN q) H v zs := h.of_heap rfl
theorem HeapAt.lt {w : World} {H : Nat} {v : Value} {zs : List Int} (h : HeapAt w H v zs) : H < w.heap.size := lt_of_block h.box
/-- A slice that is not empty: its shape, its cells. -/
theorem Own.shape {w : World} {base : Nat} {v : Value} {zs : List Int} (h : Own w base v zs) (hp : 0 < zs.length) :
    ∃ g cap, v = .slice (some ⟨g, 0, none⟩) zs.length cap ∧ base ≤ g ∧ g < w.heap.size ∧ zs.length ≤ cap ∧ (∀ i, i < zs.length → w.cell? ⟨g, i, none⟩ = some (.int .i64 (zs.getD i 0))) ∧ (∀ i, w.frozen? ⟨g, i, none⟩ = false) := by
  have h0 := h
  rcases h.2 with ⟨_, hn⟩ | ⟨g, cap, cur, hv, hb, hg, hle, _, _, _⟩
  · omega
  · subst hv
    refine ⟨g, cap, rfl, hb, lt_of_block hg, hle, fun i hi => ?_, fun i => h0.frozenAt i⟩
    rw [h0.cellAt i (by omega), List.getElem?_map, List.getD_eq_getElem?_getD, List.getElem?_eq_getElem hi]
    rfl

set_option maxHeartbeats 400000 in
theorem swap_eq (g n cap i : Nat) (x : Int) (w : World) (hn : n ≤ 65537) (hi : i < n) (ci : w.cell? ⟨g, i, none⟩ = some (.int .i64 x)) (fi : w.frozen? ⟨g, i, none⟩ = false) :
    Calls Try.prog 38 #[.slice (some ⟨g, 0, none⟩) n cap, .int .i64 i, .int .i64 i] w fun e w' => e = .returned (.tuple #[]) ∧ w' = ((w.setCell ⟨g, i, none⟩ (.int .i64 x)).setCell ⟨g, i, none⟩ (.int .i64 x)).drew := by
  have hi2 : (i : Int) < (n : Int) := by omega
  go_enter Try.func38, Try.ntmps38
  go_wp2
  go_region
  all_goals (go_end0; exact ⟨rfl, rfl⟩)

theorem info3 : (Try.prog.info? 3).map (fun i => (i.zero, i.size, i.bytes)) = some (some (.int .i64 0), 1, 8) := by kernel_rfl

theorem owns_mono {w : World} {base base' : Nat} {e : TypeId} {size : Nat} {v : Value} {n : Nat} {xs : List Value} (h : w.ownsRow base e size v n xs) (hb : base' ≤ base) : w.ownsRow base' e size v n xs := by
  obtain ⟨h1, h2 | ⟨g, cap, cur, a, b, c⟩⟩ := h
  · exact ⟨h1, .inl h2⟩
  · exact ⟨h1, .inr ⟨g, cap, cur, a, Nat.le_trans hb b, c⟩⟩
theorem one_cells {w : World} {ad : Addr} {u : Value} (hsp : ad.spot = none) (h : w.cell? ad = some u) : ∀ j y, [u][j]? = some y → w.cell? (ad.add j) = some y := by
  intro j y hj
  match j, hj with
  | 0, hj =>
    simp at hj
    subst hj
    obtain ⟨b, o, s⟩ := ad
    simp at hsp
    subst hsp
    rw [Addr.add_lit]
    exact h

/-- One int appended to a slice of the call's own: the same row, or a new one. -/
theorem append_one (t ty : TypeId) (ht : Try.prog.underlying t = some (.slice 3)) (w : World) (base : Nat) (v : Value) (zs : List Int) (x : Int) (h : Own w base v zs) (hl : zs.length ≤ 2000000) (hb : base ≤ w.heap.size) (ad : Addr) (hx : w.cell? ad = some (.int .i64 x)) (hsp : ad.spot = none) :
    ∃ v' w', (Builtin.append_ #[t, t] ty #[v, .slice (some ad) 1 1]).run Try.prog w = .ok v' w' ∧ Own w' base v' (zs ++ [x]) ∧ w.grownBy w' v.ownBlock ∧ (v'.ownBlock = v.ownBlock ∨ ∃ g, v'.ownBlock = some g ∧ w.heap.size ≤ g) := by
  obtain ⟨i0, hi, hz0, hz1, hz2⟩ := info_parts info3
  have hm : zs.length + 1 ≤ maxLen := by unfold maxLen; omega
  have hby : (zs.length + 1) * 8 ≤ 140737488355328 := by omega
  have e1 : (zs ++ [x]).length = zs.length + 1 := by simp
  have e2 : (zs ++ [x]).map (Value.int .i64) = zs.map (Value.int .i64) ++ [.int .i64 x] := by simp
  have h1c : ∀ u ∈ [Value.int .i64 x], u.oneCell' = true := by intro u hu; simp at hu; subst hu; rfl
  unfold Own at *
  rw [e1, e2]
  have hlt : ∀ {w' : World} {v' : Value} {n : Nat} {xs : List Value}, w'.ownsRow w.heap.size 3 1 v' (n + 1) xs → ∃ g, v'.ownBlock = some g ∧ w.heap.size ≤ g := by
    intro w' v' n xs ho
    rcases ho.2 with ⟨_, h'⟩ | ⟨g, cap, cur, rfl, hg, _⟩
    · omega
    · exact ⟨g, rfl, hg⟩
  rcases h.2 with ⟨rfl, hn⟩ | ⟨g, cap, cur, rfl, hbg, hg, hle, hcm, hcs, htake⟩
  · obtain ⟨v', w', r1, r2, r3, _⟩ := run_append_own (P := Try.prog) w w.heap.size t ty 3 i0 (.int .i64 0) 1 8 ht hi hz0 hz1 hz2 rfl (by decide) (.slice none 0 0) 0 [] (World.ownsRow_nil w _ 3 1) ad 1 1 [.int .i64 x] rfl (one_cells hsp hx) h1c (by unfold maxLen; omega) (by omega) (Nat.le_refl _)
    have hz : zs = [] := List.eq_nil_of_length_eq_zero hn
    subst hz
    exact ⟨v', w', r1, owns_mono r2 hb, r3, .inr (hlt r2)⟩
  · by_cases hroom : zs.length + 1 ≤ cap
    · obtain ⟨w', r1, r2, r3⟩ := run_append_fits (P := Try.prog) w base t ty 3 i0 1 ht hi hz1 g zs.length cap _ h ad 1 1 [.int .i64 x] rfl (one_cells hsp hx) h1c hroom
      exact ⟨_, w', r1, r2, r3, .inl rfl⟩
    · obtain ⟨v', w', r1, r2, r3⟩ := run_append_arg_grows (P := Try.prog) w t ty 3 i0 (.int .i64 0) 1 8 ht hi hz0 hz1 hz2 rfl (by decide) ⟨g, 0, none⟩ zs.length cap (zs.map (Value.int .i64)) (by simp) (fun j u hj => by
        have hj' := (List.getElem?_eq_some_iff.1 hj).1
        rw [Addr.add_lit, Nat.zero_add, h.cellAt j (by simpa using hj')]; exact hj) ad 1 1 [.int .i64 x] rfl (one_cells hsp hx) (by omega) hm hby
      exact ⟨v', w', r1, owns_mono r2 hb, ⟨r3.os, r3.tape, r3.output, r3.size, fun k hk _ => r3.block k hk (by simp)⟩, .inr (hlt r2)⟩

theorem tassert (x : Int) (w : World) : (Instr.typeAssert (.iface 3 (.int .i64 x)) 20 3 false).run Try.prog w = .ok (.int .i64 x) w := by kernel_rfl

/-- append by its run, as one step of a region that draws .. -/
theorem step_append_run {P : Program} {ops : Array Oper} {o : Oper} {a : Act} {w : World} {K : Act → World → Prop} {Q : Exit → Act → World → Prop} {E : Prop}
    (hg : o.guard = none) (s x : Operand) (t : TypeId) (hop : o.op = Op.call { callee := Callee.builtin Builtin.append, args := #[s, x], argTypes := #[t, t] })
    (v u v' : Value) (w' : World) (hs : a.eval s = v) (hx : a.eval x = u) (hrun : (Builtin.append_ #[t, t] o.type #[v, u]).run P w = .ok v' w') (hK : K (a.put o.dst v') w') :
    if Region.wanted o (yielded ops a.tmps) = true then Oper.wp P o a w K Q else E := by
  have hw : Region.wanted o (yielded ops a.tmps) = true := by simp [Region.wanted, hg]
  rw [if_pos hw]
  unfold Oper.wp
  simp [execOp, hop, resolve, invoke, builtin, hs, hx, hrun, Result.andThen]
  exact hK
/-- .. and of one that does not. -/
theorem wpList_append_run {P : Program} {w : World} {ops : Array Oper} {rest : List Oper} {o : Oper} {a : Act} {Q : Exit → Act → World → Prop}
    (hg : o.guard = none) (s x : Operand) (t : TypeId) (hop : o.op = Op.call { callee := Callee.builtin Builtin.append, args := #[s, x], argTypes := #[t, t] })
    (v u v' : Value) (w' : World) (hs : a.eval s = v) (hx : a.eval x = u) (hrun : (Builtin.append_ #[t, t] o.type #[v, u]).run P w = .ok v' w') (hK : wpList P ops Q rest (a.put o.dst v') w') :
    wpList P ops Q (o :: rest) a w := by
  refine wpList_plain hg fun K hK' => ?_
  unfold Oper.wp
  simp [execOp, hop, resolve, invoke, builtin, hs, hx, hrun, Result.andThen]
  exact hK' _ _ hK

set_option maxHeartbeats 400000 in
theorem push_raw (H g' n' c' : Nat) (v : Value) (x : Int) (w w2 : World) (hH : H < w.heap.size) (h : w.cell? ⟨H, 0, none⟩ = some v) (hap : (Builtin.append_ #[32, 32] 32 #[v, .slice (some ⟨w.heap.size, 0, none⟩) 1 1]).run Try.prog (w.alloc (.cells #[.int .i64 x] 3)).drew = .ok (.slice (some ⟨g', 0, none⟩) n' c') w2) (h2 : w2.cell? ⟨H, 0, none⟩ = some v) (hf : w2.frozen? ⟨H, 0, none⟩ = false) :
    Calls Try.prog 37 #[.pointer (some ⟨H, 0, none⟩), .iface 3 (.int .i64 x)] w fun e w' => e = .returned (.tuple #[]) ∧ w' = w2.setCell ⟨H, 0, none⟩ (.slice (some ⟨g', 0, none⟩) n' c') := by
  have hta := tassert x
  have HAP := hide hap
  clear hap
  go_enter Try.func37, Try.ntmps37
  go_wp2
  go_region_law (refine step_append_run rfl (.tmp 7) (.tmp 10) 32 rfl _ _ (.slice (some ⟨g', 0, none⟩) n' c') w2 rfl rfl (unhide HAP) ?_)
  all_goals (go_end0; exact ⟨rfl, rfl⟩)

theorem Own.of_heap {w w' : World} {base : Nat} {v : Value} {zs : List Int} (h : Own w base v zs) (e : w'.heap = w.heap) : Own w' base v zs := by
  unfold Own World.ownsRow at *; rw [e]; exact h
/-- heap's 'h.Push(x)' on a *lowest. -/
theorem hpush_any (H : Nat) (v : Value) (zs : List Int) (x : Int) (w : World) (h : HeapAt w H v zs) (hl : zs.length ≤ 2000000) :
    Calls Try.prog 37 #[.pointer (some ⟨H, 0, none⟩), .iface 3 (.int .i64 x)] w fun e w' => e = .returned (.tuple #[]) ∧ ∃ v', HeapAt w' H v' (zs ++ [x]) ∧ Frm (Tch H v) w w' ∧ (v'.ownBlock = v.ownBlock ∨ ∃ g, v'.ownBlock = some g ∧ w.heap.size ≤ g) := by
  have hH := h.lt
  have hown : Own (w.alloc (.cells #[.int .i64 x] 3)).drew 0 v zs := (h.own.alloc _).drew
  have hsz : (w.alloc (.cells #[.int .i64 x] 3)).drew.heap.size = w.heap.size + 1 := by show (w.heap.push _).size = _; simp
  obtain ⟨v', w2, hap, ho, hg, hv⟩ := append_one 32 32 Try.underlying32 _ 0 v zs x hown hl (Nat.zero_le _) ⟨w.heap.size, 0, none⟩ (by simp [go_sem]) rfl
  obtain ⟨g', c', rfl, _, hgl, _, _, _⟩ := ho.shape (by simp)
  have hbox : (w.alloc (.cells #[.int .i64 x] 3)).drew.heap[H]? = some (.cells #[v] 32 (0, 0)) := (Below.heap_alloc w _ H hH).trans h.box
  have hbox2 : w2.heap[H]? = some (.cells #[v] 32 (0, 0)) := (hg.block H (by rw [hsz]; omega) (fun e => h.ne e.symm)).trans hbox
  have hne' : (Value.slice (some ⟨g', 0, none⟩) (zs ++ [x]).length c').ownBlock ≠ some H := by
    rcases hv with e | ⟨g, e, h2⟩
    · rw [e]; exact h.ne
    · rw [e]; intro e'; obtain rfl := Option.some.inj e'; rw [hsz] at h2; omega
  refine (push_raw H g' _ c' v x w w2 hH h.cell hap (cell_of_one hbox2) (free_of_one hbox2)).mono ?_
  rintro e w' ⟨rfl, rfl⟩
  refine ⟨rfl, .slice (some ⟨g', 0, none⟩) (zs ++ [x]).length c', ⟨one_setCell hbox2, ?_, hne'⟩, ?_, ?_⟩
  · exact ho.setOther hne' _
  · refine Frm.setCell ?_ (Or.inl rfl) _
    exact (((Frm.refl _ w).alloc _).drew).grown hg (fun k hk => Or.inr hk.symm)
  · rcases hv with h1 | ⟨g, h1, h2⟩
    · exact .inl h1
    · exact .inr ⟨g, h1, by rw [hsz] at h2; omega⟩

set_option maxHeartbeats 400000 in
theorem pop_raw (H g n cap : Nat) (x : Int) (w : World) (hn : n ≤ 2000000) (hc : n + 1 ≤ cap) (h : w.cell? ⟨H, 0, none⟩ = some (.slice (some ⟨g, 0, none⟩) (n + 1) cap)) (hf : w.frozen? ⟨H, 0, none⟩ = false) (hx : w.cell? ⟨g, n, none⟩ = some (.int .i64 x)) :
    Calls Try.prog 36 #[.pointer (some ⟨H, 0, none⟩)] w fun e w' => e = .returned (.iface 3 (.int .i64 x)) ∧ w' = w.setCell ⟨H, 0, none⟩ (.slice (some ⟨g, 0, none⟩) n cap) := by
  go_enter Try.func36, Try.ntmps36
  go_wp2
  go_ret
  exact ⟨rfl, rfl⟩

/-- A slice of the call's own, its last element cut off. -/
theorem Own.cut {w : World} {base g cap n : Nat} {zs : List Int} {x : Int} (h : Own w base (.slice (some ⟨g, 0, none⟩) (n + 1) cap) (zs ++ [x])) (hn : n = zs.length) : Own w base (.slice (some ⟨g, 0, none⟩) n cap) zs := by
  subst hn
  obtain ⟨h1, ⟨hv, _⟩ | ⟨g', cap', cur, hv, hb, hg, hle, hm, hs, ht⟩⟩ := h
  · cases hv
  · simp only [Value.slice.injEq, Option.some.injEq, Addr.mk.injEq, and_true] at hv
    obtain ⟨rfl, _, rfl⟩ := hv
    have hl : (zs ++ [x]).length = zs.length + 1 := by simp
    rw [hl] at hle ht
    refine ⟨by simp, .inr ⟨g, cap, cur, rfl, hb, hg, by omega, hm, hs, ?_⟩⟩
    have := congrArg (List.take (zs.length * 1)) ht
    rw [List.take_take] at this
    simpa [show min zs.length (zs.length + 1) = zs.length by omega] using this

/-- heap's 'h.Pop()' on a *lowest. -/
theorem hpop_any (H : Nat) (v : Value) (zs : List Int) (x : Int) (w : World) (h : HeapAt w H v (zs ++ [x])) (hl : zs.length ≤ 2000000) :
    Calls Try.prog 36 #[.pointer (some ⟨H, 0, none⟩)] w fun e w' => e = .returned (.iface 3 (.int .i64 x)) ∧ ∃ v', HeapAt w' H v' zs ∧ Frm (Tch H v) w w' ∧ v'.ownBlock = v.ownBlock := by
  obtain ⟨g, cap, rfl, hb, hgl, hle, hc, _⟩ := h.own.shape (by simp)
  have hl1 : (zs ++ [x]).length = zs.length + 1 := by simp
  have hcl := h.cell
  rw [hl1] at hcl hle
  have hx := hc zs.length (by omega)
  rw [show (zs ++ [x]).getD zs.length 0 = x by simp] at hx
  refine (pop_raw H g zs.length cap x w hl hle hcl h.free hx).mono ?_
  rintro e w' ⟨rfl, rfl⟩
  refine ⟨rfl, .slice (some ⟨g, 0, none⟩) zs.length cap, ⟨one_setCell h.box, ?_, h.ne⟩, (Frm.refl _ w).setCell (Or.inl rfl) _, rfl⟩
  have ho := h.own
  rw [hl1] at ho
  exact Own.setOther (a := ⟨H, 0, none⟩) (ho.cut rfl) (fun e => h.ne e) _

theorem Own.stored {w : World} {base g cap n : Nat} {zs : List Int} (h : Own w base (.slice (some ⟨g, 0, none⟩) n cap) zs) (hn : n = zs.length) (j : Nat) (u : Int) : Own (w.setCell ⟨g, j, none⟩ (.int .i64 u)) base (.slice (some ⟨g, 0, none⟩) n cap) (zs.set j u) := by
  subst hn
  have := (World.ownsRow.stored h j (.int .i64 u)).1
  unfold Own
  rw [List.length_set, List.map_set]
  exact this

/-- 'h.Swap(i, j)'. -/
theorem hswap_any (H : Nat) (v : Value) (zs : List Int) (i j : Nat) (w : World) (h : HeapAt w H v zs) (hl : zs.length ≤ 65537) (hi : i < zs.length) (hj : j < zs.length) :
    Calls Try.prog 38 #[v, .int .i64 i, .int .i64 j] w fun e w' => e = .returned (.tuple #[]) ∧ HeapAt w' H v (sw zs i j) ∧ Frm (Tch H v) w w' := by
  obtain ⟨g, cap, rfl, hb, hgl, hle, hc, hf⟩ := h.own.shape (by omega)
  have hgH : H ≠ g := fun e => h.ne (congrArg some e.symm)
  have key : ∀ x y : Int, x = zs.getD i 0 → y = zs.getD j 0 → HeapAt ((w.setCell ⟨g, i, none⟩ (.int .i64 y)).setCell ⟨g, j, none⟩ (.int .i64 x)) H (.slice (some ⟨g, 0, none⟩) zs.length cap) (sw zs i j) ∧ Frm (Tch H (.slice (some ⟨g, 0, none⟩) zs.length cap)) w ((w.setCell ⟨g, i, none⟩ (.int .i64 y)).setCell ⟨g, j, none⟩ (.int .i64 x)) := by
    rintro x y rfl rfl
    refine ⟨⟨?_, ?_, h.ne⟩, ((Frm.refl _ w).setCell (Or.inr rfl) _).setCell (Or.inr rfl) _⟩
    · rw [Below.heap_setCell _ _ _ _ hgH, Below.heap_setCell _ _ _ _ hgH]
      exact h.box
    · have h1 := Own.stored h.own rfl i (zs.getD j 0)
      exact Own.stored h1 (by simp) j (zs.getD i 0)
  by_cases hij : i = j
  · subst hij
    refine (swap_eq g zs.length cap i (zs.getD i 0) w hl hi (hc i hi) (hf i)).mono ?_
    rintro e w' ⟨rfl, rfl⟩
    exact ⟨rfl, (key _ _ rfl rfl).1.of_heap rfl, (key _ _ rfl rfl).2.drew⟩
  · refine (swap_ne g zs.length cap i j (zs.getD i 0) (zs.getD j 0) w hl hi hj hij (hc i hi) (hc j hj) (hf i) (hf j)).mono ?_
    rintro e w' ⟨rfl, rfl⟩
    exact ⟨rfl, (key _ _ rfl rfl).1.of_heap rfl, (key _ _ rfl rfl).2.drew⟩

/-- 'h.Less(i, j)'. -/
theorem hless_any (H : Nat) (v : Value) (zs : List Int) (i j : Nat) (w : World) (h : HeapAt w H v zs) (hl : zs.length ≤ 65537) (hi : i < zs.length) (hj : j < zs.length) :
    Calls Try.prog 35 #[v, .int .i64 i, .int .i64 j] w fun e w' => e = .returned (.bool (decide (zs.getD i 0 < zs.getD j 0))) ∧ ∃ q, w' = w.drewN q := by
  obtain ⟨g, cap, rfl, hb, hgl, hle, hc, hf⟩ := h.own.shape (by omega)
  exact less_any g zs.length cap i j _ _ w hl hi hj (hc i hi) (hc j hj)
/-- 'h.Len()'. -/
theorem hlen_any (H : Nat) (v : Value) (zs : List Int) (w : World) (h : HeapAt w H v zs) :
    Calls Try.prog 15 #[v] w fun e w' => e = .returned (.int .i64 zs.length) ∧ w' = w := by
  rcases h.own.2 with ⟨rfl, hn⟩ | ⟨g, cap, cur, rfl, _⟩
  · rw [hn]; exact len_any none 0 0 w
  · exact len_any _ _ _ w

end Go.Proofs.Qxb6615102a
