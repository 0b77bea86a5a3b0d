import Derived.Test.Qxb6615473aObs
import Derived.Deep.Slices
namespace Go.Proofs.Qxb6615473a
open Go.ChangeShapes Go.WideShapes Go.RowKit
set_option linter.unusedVariables false

/-- One event of the script. -/
structure Ev where
  ty : ByteArray
  rs : ByteArray
  id : Int
  d : Int
/-- Event i of a slice of events. -/
structure EvCells (w : World) (b o : Nat) (e : Ev) : Prop where
  c0 : w.cell? ⟨b, o, none⟩ = some (.string e.ty)
  c1 : w.cell? ⟨b, o + 1, none⟩ = some (.int .i64 e.id)
  c2 : w.cell? ⟨b, o + 2, none⟩ = some (.string e.rs)
  c3 : w.cell? ⟨b, o + 3, none⟩ = some (.int .i64 e.d)
  wi : (Lit.int .i64 e.id).wf = true
  wd : (Lit.int .i64 e.d).wf = true
  lt : e.ty.size ≤ maxLen
  lr : e.rs.size ≤ maxLen
def EvAll (w : World) (ao : Option Addr) (N : Nat) (E : Nat → Ev) : Prop :=
  N ≤ maxLen ∧ ∀ i, i < N → ∃ b off, ao = some ⟨b, off, none⟩ ∧ b < w.heap.size ∧ EvCells w b (off + i * 4) (E i)

theorem addr_plain {w : World} {a : Addr} {u : Value} (h : w.cell? (a.add 0) = some u) : ∃ b off, a = ⟨b, off, none⟩ ∧ b < w.heap.size ∧ ∀ j, a.add j = ⟨b, off + j, none⟩ := by
  obtain ⟨b, off, spot⟩ := a
  have hspot : spot = none := by simpa [Addr.add] using World.cell?_spot h
  subst hspot
  refine ⟨b, off, rfl, ?_, fun j => Addr.add_lit _ _ _⟩
  rw [Addr.add_lit] at h
  exact World.block_lt_of_cell? w _ h

theorem EvCells.same {w w' : World} {b o : Nat} {e : Ev} (h : EvCells w b o e) (hb : w'.heap[b]? = w.heap[b]?) : EvCells w' b o e :=
  ⟨(World.cell?_of_block (w := w) hb).trans h.c0, (World.cell?_of_block (w := w) hb).trans h.c1, (World.cell?_of_block (w := w) hb).trans h.c2, (World.cell?_of_block (w := w) hb).trans h.c3, h.wi, h.wd, h.lt, h.lr⟩
theorem EvAll.below {w w' : World} {ao : Option Addr} {N : Nat} {E : Nat → Ev} (h : EvAll w ao N E) (hb : Below w.heap.size w w') : EvAll w' ao N E :=
  ⟨h.1, fun i hi => by
    obtain ⟨b, off, rfl, hbl, hc⟩ := h.2 i hi
    exact ⟨b, off, rfl, Nat.lt_of_lt_of_le hbl hb.size, hc.same (hb.block b hbl)⟩⟩

theorem cells34 : Try.prog.cellsOf 34 = 4 := by kernel_rfl
theorem cells9 : Try.prog.cellsOf 9 = 1 := by kernel_rfl
theorem cells2 : Try.prog.cellsOf 2 = 1 := by kernel_rfl

theorem open_ev {H : Type} {enc : TypeId × Value → H} {w : World} {base : Nat} {spare : Nat → Bool} {held : Bool} {fuel : Nat} {cs : List Value} {x : DataW H × List MemPlace}
    (h : DataW.trod enc Try.prog w base spare held fuel 34 cs = some x) :
    ∃ e : Ev, cs = [.string e.ty, .int .i64 e.id, .string e.rs, .int .i64 e.d] ∧ (Lit.int .i64 e.id).wf = true ∧ (Lit.int .i64 e.d).wf = true ∧ e.ty.size ≤ maxLen ∧ e.rs.size ≤ maxLen := by
  obtain ⟨xs, n, _, rfl, hl, hlen, hf⟩ := DataW.trod_struct Try.underlying34 h
  rw [cells34] at hl
  obtain ⟨c0, c1, c2, c3, rfl⟩ : ∃ c0 c1 c2 c3, cs = [c0, c1, c2, c3] := by
    cases cs with
    | nil => cases hl
    | cons c0 cs =>
    cases cs with
    | nil => cases hl
    | cons c1 cs =>
    cases cs with
    | nil => cases hl
    | cons c2 cs =>
    cases cs with
    | nil => cases hl
    | cons c3 cs =>
    cases cs with
    | nil => exact ⟨c0, c1, c2, c3, rfl⟩
    | cons c4 cs => simp at hl
  match xs, hlen with
  | [y0, y1, y2, y3], _ =>
    have h0 := hf 0 _ rfl
    have h1 := hf 1 _ rfl
    have h2 := hf 2 _ rfl
    have h3 := hf 3 _ rfl
    simp [cells9, cells2] at h0 h1 h2 h3
    obtain ⟨ty, e0, _, l0⟩ := DataW.trod_string Try.underlying9 h0
    obtain ⟨id, e1, _, l1⟩ := DataW.trod_int Try.underlying2 h1
    obtain ⟨rs, e2, _, l2⟩ := DataW.trod_string Try.underlying9 h2
    obtain ⟨d, e3, _, l3⟩ := DataW.trod_int Try.underlying2 h3
    simp only [List.cons.injEq, and_true] at e0 e1 e2 e3
    subst e0 e1 e2 e3
    exact ⟨⟨ty, rs, id, d⟩, rfl, l1, l3, l0, l2⟩

/-- A slice of events that came in, opened. -/
theorem open_evs {H : Type} {enc : TypeId × Value → H} {w : World} {base : Nat} {held : Bool} {fuel : Nat} {a1 : Option Addr} {len1 cap1 : Nat} {x : DataW H × List MemPlace}
    (hf : DataW.trod enc Try.prog w base (fun _ => true) held fuel 31 (Value.slice a1 len1 cap1).cells.toList = some x) : ∃ E, EvAll w a1 len1 E := by
  rcases Go.Deep.open_slice Try.underlying31 hf with ⟨hcs, _⟩ | ⟨a, len, cap, m, n, D, Pl, hcs, _, hl, hm, hmm, _, hr⟩
  · simp [Value.cells] at hcs
    obtain ⟨rfl, rfl, rfl⟩ := hcs
    exact ⟨fun _ => ⟨ByteArray.empty, ByteArray.empty, 0, 0⟩, Nat.zero_le _, fun i hi => absurd hi (Nat.not_lt_zero i)⟩
  · simp [Value.cells] at hcs
    obtain ⟨rfl, rfl, rfl⟩ := hcs
    simp only [if_true] at hmm
    subst hmm
    rw [cells34] at hr
    have hall : ∀ i, i < len1 → ∃ e : Ev, ∃ b off, a = ⟨b, off, none⟩ ∧ b < w.heap.size ∧ EvCells w b (off + i * 4) e := fun i hi => by
      obtain ⟨cs0, h0, t0⟩ := hr 0 (by omega)
      obtain ⟨cs', h1, h2⟩ := hr i (by omega)
      obtain ⟨e0, rfl, _⟩ := open_ev t0
      obtain ⟨e, rfl, g1, g2, g3, g4⟩ := open_ev h2
      have hz := (World.cells?_some h0).2.2 0 (by omega)
      rw [Nat.zero_mul, Go.Deep.add_add] at hz
      obtain ⟨b, off, rfl, hb, hadd⟩ := addr_plain hz
      refine ⟨e, b, off, rfl, hb, ?_⟩
      have q := (World.cells?_some h1).2.2
      have q0 := q 0 (by omega)
      have q1 := q 1 (by omega)
      have q2 := q 2 (by omega)
      have q3 := q 3 (by omega)
      rw [Go.Deep.add_add, hadd] at q0 q1 q2 q3
      exact ⟨q0, q1, q2, q3, g1, g2, g3, g4⟩
    haveI : Inhabited Ev := ⟨⟨ByteArray.empty, ByteArray.empty, 0, 0⟩⟩
    obtain ⟨E, hE⟩ := Go.Deep.choose_lt hall
    exact ⟨E, by omega, fun i hi => by
      obtain ⟨b, off, rfl, hb, hc⟩ := hE i hi
      exact ⟨b, off, rfl, hb, hc⟩⟩
end Go.Proofs.Qxb6615473a
