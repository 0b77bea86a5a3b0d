import Derived.Test.Qxb6615473aProg
import Derived.Maps.OwnSet
import Derived.Maps.Views
import Derived.WalkKit
import Derived.Deep.QuietTactic
import Derived.BigQuiet
import Derived.OwnWalk
import Derived.Laws.OwnMore
import Derived.ChangeAlike
import Derived.Below
namespace Go.Proofs.Qxb6615473a
open Go.RowKit Go.Maps
set_option linter.unusedVariables false

/-- w' is w but for the blocks of S, for new blocks and for draws. -/
structure Frm (S : Nat → Prop) (w w' : World) : Prop where
  os : w'.os = w.os
  tape : w'.tape = w.tape
  output : w'.output = w.output
  size : w.heap.size ≤ w'.heap.size
  block : ∀ k, k < w.heap.size → ¬ S k → w'.heap[k]? = w.heap[k]?
theorem Frm.refl (S : Nat → Prop) (w : World) : Frm S w w := ⟨rfl, rfl, rfl, Nat.le_refl _, fun _ _ _ => rfl⟩
theorem Frm.trans {S : Nat → Prop} {a b c : World} (h : Frm S a b) (k : Frm S b c) : Frm S a c :=
  ⟨k.os.trans h.os, k.tape.trans h.tape, k.output.trans h.output, Nat.le_trans h.size k.size, fun i hi hs => (k.block i (Nat.lt_of_lt_of_le hi h.size) hs).trans (h.block i hi hs)⟩
theorem Frm.mono {S T : Nat → Prop} {a b : World} (h : Frm S a b) (hst : ∀ k, k < a.heap.size → S k → T k) : Frm T a b :=
  ⟨h.os, h.tape, h.output, h.size, fun i hi hs => h.block i hi (fun s => hs (hst i hi s))⟩
theorem Frm.drewN {S : Nat → Prop} {a b : World} (h : Frm S a b) (q : Nat) : Frm S a (b.drewN q) := ⟨h.os, h.tape, h.output, h.size, h.block⟩
theorem Frm.drew {S : Nat → Prop} {a b : World} (h : Frm S a b) : Frm S a b.drew := ⟨h.os, h.tape, h.output, h.size, h.block⟩
theorem Frm.alloc {S : Nat → Prop} {a b : World} (h : Frm S a b) (o : Obj) : Frm S a (b.alloc o) :=
  h.trans ⟨rfl, rfl, rfl, by simp, fun k hk _ => Below.heap_alloc _ _ _ hk⟩
theorem Frm.setCell {S : Nat → Prop} {a b : World} (h : Frm S a b) {p : Addr} (hp : S p.block) (u : Value) : Frm S a (b.setCell p u) :=
  h.trans ⟨rfl, rfl, rfl, by simp [World.setCell], fun k hk hs => Below.heap_setCell _ _ _ _ (fun e => hs (e ▸ hp))⟩
theorem Frm.grown {S : Nat → Prop} {a b c : World} (h : Frm S a b) {row : Option Nat} (hg : b.grownBy c row) (hr : ∀ k, row = some k → S k) : Frm S a c :=
  h.trans ⟨hg.os, hg.tape, hg.output, hg.size, fun k hk hs => hg.block k hk (fun e => hs (hr k e.symm))⟩
theorem Frm.below {S : Nat → Prop} {B : Nat} {a b : World} (h : Frm S a b) (hB : B ≤ a.heap.size) (hs : ∀ k, k < B → ¬ S k) : Below B a b :=
  ⟨h.os, h.tape, h.output, h.size, fun k hk => h.block k (Nat.lt_of_lt_of_le hk hB) (hs k hk)⟩

/-- The block g is a row of n one-cell elements c 0, c 1, .. -/
def RowAt (w : World) (g : Nat) (ty : TypeId) (n : Nat) (c : Nat → Value) : Prop := ∃ cur : Array Value, w.heap[g]? = some (.cells cur ty (0, 0)) ∧ cur.size = n ∧ ∀ k, k < n → cur[k]? = some (c k)
def upd (c : Nat → Value) (j : Nat) (u : Value) (k : Nat) : Value := if k = j then u else c k
theorem RowAt.cell {w : World} {g : Nat} {ty : TypeId} {n : Nat} {c : Nat → Value} (h : RowAt w g ty n c) (k : Nat) (hk : k < n) : w.cell? ⟨g, k, none⟩ = some (c k) := by
  obtain ⟨cur, h1, h2, h3⟩ := h
  rw [cell_of_row w g k cur ty (0, 0) h1]; exact h3 k hk
theorem RowAt.free {w : World} {g : Nat} {ty : TypeId} {n : Nat} {c : Nat → Value} (h : RowAt w g ty n c) (k : Nat) : w.frozen? ⟨g, k, none⟩ = false := by
  obtain ⟨cur, h1, h2, h3⟩ := h
  exact frozen_of_row w g k cur ty h1
theorem RowAt.lt {w : World} {g : Nat} {ty : TypeId} {n : Nat} {c : Nat → Value} (h : RowAt w g ty n c) : g < w.heap.size := by
  obtain ⟨cur, h1, _⟩ := h; exact lt_of_block h1
theorem RowAt.same {w w' : World} {g : Nat} {ty : TypeId} {n : Nat} {c : Nat → Value} (h : RowAt w g ty n c) (e : w'.heap[g]? = w.heap[g]?) : RowAt w' g ty n c := by
  obtain ⟨cur, h1, h2⟩ := h; exact ⟨cur, e.trans h1, h2⟩
theorem RowAt.store {w : World} {g : Nat} {ty : TypeId} {n : Nat} {c : Nat → Value} (h : RowAt w g ty n c) (j : Nat) (u : Value) : RowAt (w.setCell ⟨g, j, none⟩ u) g ty n (upd c j u) := by
  obtain ⟨cur, h1, h2, h3⟩ := h
  refine ⟨cur.setIfInBounds j u, heap_setCell_same w g j cur ty u h1, by simpa using h2, fun k hk => ?_⟩
  unfold upd
  rw [Array.getElem?_setIfInBounds]
  by_cases e : j = k
  · rw [if_pos e, if_pos e.symm, if_pos (by omega)]
  · rw [if_neg e, if_neg (fun h => e h.symm)]; exact h3 k hk
theorem RowAt.congr {w : World} {g : Nat} {ty : TypeId} {n : Nat} {c c' : Nat → Value} (h : RowAt w g ty n c) (e : ∀ k, k < n → c k = c' k) : RowAt w g ty n c' := by
  obtain ⟨cur, h1, h2, h3⟩ := h
  exact ⟨cur, h1, h2, fun k hk => by rw [h3 k hk, e k hk]⟩
theorem RowAt.drewN {w : World} {g : Nat} {ty : TypeId} {n : Nat} {c : Nat → Value} (h : RowAt w g ty n c) (q : Nat) : RowAt (w.drewN q) g ty n c := h.same rfl

/-! ### the collector, in plain words -/
/-- conns, failed, closed: the three maps; ga: the gauges; bk: the buckets. -/
structure St where
  conns : DataW Unit
  failed : DataW Unit
  closed : DataW Unit
  ga : Nat → Int
  waiting : Int
  created : Int
  held : Int
  count : Int
  total : Int
  mx : Int
  bk : Nat → Int
/-- What the collector's cells hold. -/
def cellsOf (lk : Int) (S : St) (mc mf ml : Value) (k : Nat) : Value :=
  if k = 0 then .int .i32 lk else if k = 1 then .int .u32 0 else if k = 2 then mc
  else if k < 6 then .int .i64 (S.ga (k - 3)) else if k = 6 then .int .i64 S.waiting else if k = 7 then .int .i64 S.created
  else if k = 8 then mf else if k = 9 then ml else if k = 10 then .int .i64 S.held
  else if k = 11 then .int .i64 S.count else if k = 12 then .int .i64 S.total else if k = 13 then .int .i64 S.mx
  else .int .i64 (S.bk (k - 14))
def bump (f : Nat → Int) (i : Nat) (x : Int) (k : Nat) : Int := if k = i then f k + x else f k
def kid (id : Int) : Lit := .int .i64 id
def krs (r : ByteArray) : Lit := .string r.data.toList
def u8 (x : Int) : DataW Unit := .lit (.int .u8 x)
def n64 (x : Int) : DataW Unit := .lit (.int .i64 x)
def valI : DataW Unit → Int
  | .lit (.int _ c) => c
  | _ => 0

theorem law2 : Keyed Try.prog 2 := int_keyed Try.underlying2
theorem law53 : Keyed Try.prog 53 := string_keyed Try.underlying53
theorem zero76 (w : World) : (zeroValue 76).run Try.prog w = .ok (.int .u8 0) w := by kernel_rfl
theorem zero2 (w : World) : (zeroValue 2).run Try.prog w = .ok (.int .i64 0) w := by kernel_rfl

/-- The collector in memory: its block b, its maps' blocks. -/
structure Col (w : World) (b : Nat) (lk : Int) (mc mf ml n : Nat) (S : St) : Prop where
  row : RowAt w b 50 1902 (cellsOf lk S (.map (some mc)) (.map (some mf)) (.map (some ml)))
  oc : w.ownsMap Try.prog 2 (plainElem Try.prog 76) mc n S.conns
  of : w.ownsMap Try.prog 53 (plainElem Try.prog 2) mf n S.failed
  ol : w.ownsMap Try.prog 53 (plainElem Try.prog 2) ml n S.closed
  cf : mc ≠ mf
  cl : mc ≠ ml
  fl : mf ≠ ml
def Touch (b mc mf ml k : Nat) : Prop := k = b ∨ k = mc ∨ k = mf ∨ k = ml

theorem owns_map {w : World} {P : Program} {k : TypeId} {R : Value → Option (DataW Unit × List MemPlace)} {m n : Nat} {D : DataW Unit} (h : w.ownsMap P k R m n D) : ∃ es clock, w.heap[m]? = some (.map es clock) := by
  obtain ⟨es, clock, hb, _⟩ := h
  exact ⟨es, clock, hb⟩
theorem row_ne_map {w : World} {P : Program} {k : TypeId} {R : Value → Option (DataW Unit × List MemPlace)} {m n : Nat} {D : DataW Unit} (h : w.ownsMap P k R m n D) {g : Nat} {ty : TypeId} {N : Nat} {c : Nat → Value} (hr : RowAt w g ty N c) : m ≠ g := by
  intro e
  subst e
  obtain ⟨es, clock, hb⟩ := owns_map h
  obtain ⟨cur, h1, _⟩ := hr
  rw [hb] at h1
  cases h1
theorem owns_drewN {w : World} {P : Program} {k : TypeId} {R : Value → Option (DataW Unit × List MemPlace)} {m n : Nat} {D : DataW Unit} (h : w.ownsMap P k R m n D) (q : Nat) : (w.drewN q).ownsMap P k R m n D := h
theorem owns_of_block {w w' : World} {P : Program} {k : TypeId} {R : Value → Option (DataW Unit × List MemPlace)} {m n : Nat} {D : DataW Unit} (h : w.ownsMap P k R m n D) (e : w'.heap[m]? = w.heap[m]?) : w'.ownsMap P k R m n D := by
  obtain ⟨es, clock, hb, r⟩ := h
  exact ⟨es, clock, e.trans hb, r⟩

/-- A cell of the collector is written. -/
theorem Col.store {w : World} {b mc mf ml n : Nat} {lk lk' : Int} {S S' : St} (h : Col w b lk mc mf ml n S) (j : Nat) (u : Value)
    (e1 : S'.conns = S.conns) (e2 : S'.failed = S.failed) (e3 : S'.closed = S.closed)
    (hc : ∀ k, k < 1902 → upd (cellsOf lk S (.map (some mc)) (.map (some mf)) (.map (some ml))) j u k = cellsOf lk' S' (.map (some mc)) (.map (some mf)) (.map (some ml)) k) :
    Col (w.setCell ⟨b, j, none⟩ u) b lk' mc mf ml n S' :=
  ⟨(h.row.store j u).congr hc, by rw [e1]; exact h.oc.setCell (row_ne_map h.oc h.row) u, by rw [e2]; exact h.of.setCell (row_ne_map h.of h.row) u, by rw [e3]; exact h.ol.setCell (row_ne_map h.ol h.row) u, h.cf, h.cl, h.fl⟩
theorem Col.drewN {w : World} {b mc mf ml n : Nat} {lk : Int} {S : St} (h : Col w b lk mc mf ml n S) (q : Nat) : Col (w.drewN q) b lk mc mf ml n S :=
  ⟨h.row.drewN q, owns_drewN h.oc q, owns_drewN h.of q, owns_drewN h.ol q, h.cf, h.cl, h.fl⟩
theorem Col.drew {w : World} {b mc mf ml n : Nat} {lk : Int} {S : St} (h : Col w b lk mc mf ml n S) : Col w.drew b lk mc mf ml n S :=
  ⟨h.row.same rfl, h.oc.drew, h.of.drew, h.ol.drew, h.cf, h.cl, h.fl⟩
theorem Col.mono {w : World} {b mc mf ml n n' : Nat} {lk : Int} {S : St} (h : Col w b lk mc mf ml n S) (hn : n ≤ n') : Col w b lk mc mf ml n' S :=
  ⟨h.row, h.oc.mono hn, h.of.mono hn, h.ol.mono hn, h.cf, h.cl, h.fl⟩
theorem Col.kept {w w' : World} {b mc mf ml n : Nat} {lk : Int} {S : St} (h : Col w b lk mc mf ml n S) (hf : Frm (fun k => w.heap.size ≤ k) w w') : Col w' b lk mc mf ml n S :=
  ⟨h.row.same (hf.block b h.row.lt (by have := h.row.lt; omega)), owns_of_block h.oc (hf.block mc h.oc.lt (by have := h.oc.lt; omega)), owns_of_block h.of (hf.block mf h.of.lt (by have := h.of.lt; omega)), owns_of_block h.ol (hf.block ml h.ol.lt (by have := h.ol.lt; omega)), h.cf, h.cl, h.fl⟩
/-- conns turned: .. -/
theorem Col.turnC {w w' : World} {b mc mf ml n n' : Nat} {lk : Int} {S : St} {D : DataW Unit} (h : Col w b lk mc mf ml n S) (hn : n ≤ n') (ho : w'.ownsMap Try.prog 2 (plainElem Try.prog 76) mc n' D) (hg : w.grownBy w' (some mc)) : Col w' b lk mc mf ml n' { S with conns := D } :=
  ⟨h.row.same (hg.block b h.row.lt (fun e => row_ne_map h.oc h.row (Option.some.inj e).symm)), ho, (owns_of_block h.of (hg.block mf h.of.lt (fun e => h.cf (Option.some.inj e).symm))).mono hn, (owns_of_block h.ol (hg.block ml h.ol.lt (fun e => h.cl (Option.some.inj e).symm))).mono hn, h.cf, h.cl, h.fl⟩
theorem Col.turnF {w w' : World} {b mc mf ml n n' : Nat} {lk : Int} {S : St} {D : DataW Unit} (h : Col w b lk mc mf ml n S) (hn : n ≤ n') (ho : w'.ownsMap Try.prog 53 (plainElem Try.prog 2) mf n' D) (hg : w.grownBy w' (some mf)) : Col w' b lk mc mf ml n' { S with failed := D } :=
  ⟨h.row.same (hg.block b h.row.lt (fun e => row_ne_map h.of h.row (Option.some.inj e).symm)), (owns_of_block h.oc (hg.block mc h.oc.lt (fun e => h.cf (Option.some.inj e)))).mono hn, ho, (owns_of_block h.ol (hg.block ml h.ol.lt (fun e => h.fl (Option.some.inj e).symm))).mono hn, h.cf, h.cl, h.fl⟩
theorem Col.turnL {w w' : World} {b mc mf ml n n' : Nat} {lk : Int} {S : St} {D : DataW Unit} (h : Col w b lk mc mf ml n S) (hn : n ≤ n') (ho : w'.ownsMap Try.prog 53 (plainElem Try.prog 2) ml n' D) (hg : w.grownBy w' (some ml)) : Col w' b lk mc mf ml n' { S with closed := D } :=
  ⟨h.row.same (hg.block b h.row.lt (fun e => row_ne_map h.ol h.row (Option.some.inj e).symm)), (owns_of_block h.oc (hg.block mc h.oc.lt (fun e => h.cl (Option.some.inj e)))).mono hn, (owns_of_block h.of (hg.block mf h.of.lt (fun e => h.fl (Option.some.inj e)))).mono hn, ho, h.cf, h.cl, h.fl⟩
end Go.Proofs.Qxb6615473a
