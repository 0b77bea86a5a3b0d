import Derived.Test.Qxb6615102aArgs
import Derived.Deep.Matrix
namespace Go.Proofs.Qxb6615102a
open Go.ChangeShapes Go.WideShapes Go.RowKit
set_option linter.unusedVariables false

theorem addr_plain {w : World} {a : Addr} {u : Value} (h : w.cell? (a.add 0) = some u) : ∃ b off, a = ⟨b, off, none⟩ ∧ b < w.heap.size ∧ ∀ j, a.add j = ⟨b, off + j, none⟩ := by
  obtain ⟨b, off, spot⟩ := a
  have hspot : spot = none := by simpa [Addr.add] using World.cell?_spot h
  subst hspot
  refine ⟨b, off, rfl, ?_, fun j => Addr.add_lit _ _ _⟩
  rw [Addr.add_lit] at h
  exact World.block_lt_of_cell? w _ h

/-- A slice of slices of ints that came in, opened. -/
theorem open_ll {H : Type} {enc : TypeId × Value → H} {w : World} {base : Nat} {held : Bool} {fuel : Nat} {a1 : Option Addr} {len1 cap1 : Nat} {x : DataW H × List MemPlace}
    (hf : DataW.trod enc Try.prog w base (fun _ => true) held fuel 22 (Value.slice a1 len1 cap1).cells.toList = some x) : ∃ sv E, LL w a1 len1 sv E := by
  rcases Go.Deep.open_int_rows Try.underlying22 Try.underlying25 Try.underlying3 (by kernel_rfl) (by kernel_rfl) hf with ⟨hcs, _⟩ | ⟨a, len, cap, A, L, C, Z, hcs, _, hl, hm, _, hr⟩
  · simp [Value.cells] at hcs
    obtain ⟨rfl, rfl, rfl⟩ := hcs
    exact ⟨fun _ => .slice none 0 0, fun _ => [], Nat.zero_le _, fun i hi => absurd hi (Nat.not_lt_zero i)⟩
  · simp [Value.cells] at hcs
    obtain ⟨rfl, rfl, rfl⟩ := hcs
    refine ⟨fun i => .slice (A i) (L i) (C i), fun i => (Z i).take (L i), by omega, fun i hi => ?_⟩
    obtain ⟨h1, h2, h3, h4, _, h6, h7⟩ := hr i (by omega)
    obtain ⟨b, off, rfl, hb, hadd⟩ := addr_plain (hr 0 (by omega)).1
    rw [hadd] at h1
    have hlen : ((Z i).take (L i)).length = L i := by rw [List.length_take]; omega
    refine ⟨b, off, rfl, hb, h1, A i, C i, by rw [hlen], by rw [hlen]; omega, h6, fun t ht => ?_⟩
    rw [hlen] at ht
    cases hA : A i with
    | none => have := h6 hA; omega
    | some a' =>
      have hc := (h7 a' hA).2 t (by omega)
      obtain ⟨b', o', rfl, hb', hadd'⟩ := addr_plain ((h7 a' hA).2 0 (by omega))
      rw [hadd'] at hc
      refine ⟨b', o', rfl, hb', ?_⟩
      rw [hc, List.getD_eq_getElem?_getD, List.getD_eq_getElem?_getD, List.getElem?_take_of_lt ht]
end Go.Proofs.Qxb6615102a
