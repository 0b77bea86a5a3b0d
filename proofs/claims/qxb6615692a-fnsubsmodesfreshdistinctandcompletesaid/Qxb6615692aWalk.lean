import Derived.Test.Qxb6615692aProg
import Derived.WalkKit
import Derived.WalkSpells
import Derived.LoopTactic
import Derived.Deep.QuietTactic
import Derived.BigQuiet
import Derived.OwnWalk
import Derived.Laws.OwnMore
import Derived.RegionTactic
import Derived.ChangeAlike
import Derived.Below
namespace Go.Proofs.Qxb6615692a
open Go.RowKit
set_option linter.unusedVariables false

theorem hide {p : Prop} (h : p) : Hid p := h
theorem unhide {p : Prop} (h : Hid p) : p := h
/-- The block g is a row of n one-cell elements c 0, c 1, .. -/
def RowAt (w : World) (g : Nat) (ty : TypeId) (n : Nat) (c : Nat → Value) : Prop := ∃ cur : Array Value, w.heap[g]? = some (.cells cur ty (0, 0)) ∧ cur.size = n ∧ ∀ k, k < n → cur[k]? = some (c k)
def upd (c : Nat → Value) (j : Nat) (u : Value) (k : Nat) : Value := if k = j then u else c k
theorem RowAt.cell {w : World} {g : Nat} {ty : TypeId} {n : Nat} {c : Nat → Value} (h : RowAt w g ty n c) (k : Nat) (hk : k < n) : w.cell? ⟨g, k, none⟩ = some (c k) := by
  obtain ⟨cur, h1, h2, h3⟩ := h
  rw [cell_of_row w g k cur ty (0, 0) h1]; exact h3 k hk
theorem RowAt.free {w : World} {g : Nat} {ty : TypeId} {n : Nat} {c : Nat → Value} (h : RowAt w g ty n c) (k : Nat) : w.frozen? ⟨g, k, none⟩ = false := by
  obtain ⟨cur, h1, h2, h3⟩ := h
  exact frozen_of_row w g k cur ty h1
theorem RowAt.lt {w : World} {g : Nat} {ty : TypeId} {n : Nat} {c : Nat → Value} (h : RowAt w g ty n c) : g < w.heap.size := by
  obtain ⟨cur, h1, _⟩ := h; exact lt_of_block h1
theorem RowAt.same {w w' : World} {g : Nat} {ty : TypeId} {n : Nat} {c : Nat → Value} (h : RowAt w g ty n c) (e : w'.heap[g]? = w.heap[g]?) : RowAt w' g ty n c := by
  obtain ⟨cur, h1, h2⟩ := h; exact ⟨cur, e.trans h1, h2⟩
theorem RowAt.store {w : World} {g : Nat} {ty : TypeId} {n : Nat} {c : Nat → Value} (h : RowAt w g ty n c) (j : Nat) (u : Value) : RowAt (w.setCell ⟨g, j, none⟩ u) g ty n (upd c j u) := by
  obtain ⟨cur, h1, h2, h3⟩ := h
  refine ⟨cur.setIfInBounds j u, heap_setCell_same w g j cur ty u h1, by simpa using h2, fun k hk => ?_⟩
  unfold upd
  rw [Array.getElem?_setIfInBounds]
  by_cases e : j = k
  · rw [if_pos e, if_pos e.symm, if_pos (by omega)]
  · rw [if_neg e, if_neg (fun h => e h.symm)]; exact h3 k hk
theorem RowAt.congr {w : World} {g : Nat} {ty : TypeId} {n : Nat} {c c' : Nat → Value} (h : RowAt w g ty n c) (e : ∀ k, k < n → c k = c' k) : RowAt w g ty n c' := by
  obtain ⟨cur, h1, h2, h3⟩ := h
  exact ⟨cur, h1, h2, fun k hk => by rw [h3 k hk, e k hk]⟩
/-- The five modes. -/
def mode (k : Nat) : ByteArray :=
  if k = 0 then { data := #[78, 111, 110, 101] } else if k = 1 then { data := #[68, 101, 102, 97, 117, 108, 116] } else if k = 2 then { data := #[80, 114, 101, 102, 101, 114, 70, 111, 114, 99, 101, 100] }
  else if k = 3 then { data := #[65, 108, 119, 97, 121, 115] } else { data := #[79, 110, 108, 121, 73, 102, 65, 117, 100, 105, 111, 78, 111, 116, 80, 114, 101, 102, 101, 114, 114, 101, 100] }
theorem modes_any (w : World) : Calls Try.prog 5 #[] w fun e w' => e = .returned (.slice (some ⟨w.heap.size, 0, none⟩) 5 5) ∧ w' = w.alloc (.cells #[.string (mode 0), .string (mode 1), .string (mode 2), .string (mode 3), .string (mode 4)] 25) := by
  go_enter Try.func5, Try.ntmps5
  go_wp2_with fail
  go_ret
  exact ⟨rfl, rfl⟩
def SomeBool (w : World) (e : Ending) (w' : World) : Prop := ∃ r : Bool, e = .returned (.bool r) ∧ w = w'
theorem bytes_any (s : ByteArray) (w : World) (hs : s.size ≤ maxLen) : Calls Try.prog 4 #[.string s] w fun e w' => SomeBool w e w' := by
  unfold maxLen at hs
  by_cases h : (1048576 : Int) < (s.size : Int)
  · go_enter Try.func4, Try.ntmps4
    go_wp2_with fail
    go_ret
    exact ⟨_, rfl, rfl⟩
  · go_enter Try.func4, Try.ntmps4
    go_wp2_with fail
    go_ret
    exact ⟨_, rfl, rfl⟩

theorem make5 (w : World) : (Instr.makeSlice 23 (.int .i64 5) (.int .i64 5)).run Try.prog w = .ok (.slice (some ⟨w.heap.size, 0, none⟩) 5 5) (w.alloc (.cells #[.string { data := #[] }, .string { data := #[] }, .string { data := #[] }, .string { data := #[] }, .string { data := #[] }] 25)) := by kernel_rfl
theorem heap_new (w : World) (c : Array Value) (t : TypeId) : (w.alloc (.cells c t)).heap[w.heap.size]? = some (.cells c t (0, 0)) := heap_alloc_new w _
theorem row_modes (w : World) : RowAt (w.alloc (.cells #[.string (mode 0), .string (mode 1), .string (mode 2), .string (mode 3), .string (mode 4)] 25)) w.heap.size 25 5 (fun j => .string (mode j)) :=
  ⟨_, heap_new w _ _, rfl, fun k hk => by
    have : k = 0 ∨ k = 1 ∨ k = 2 ∨ k = 3 ∨ k = 4 := by omega
    rcases this with rfl | rfl | rfl | rfl | rfl <;> rfl⟩
theorem row_empty (w : World) : RowAt (w.alloc (.cells #[.string { data := #[] }, .string { data := #[] }, .string { data := #[] }, .string { data := #[] }, .string { data := #[] }] 25)) w.heap.size 25 5 (fun _ => .string { data := #[] }) :=
  ⟨_, heap_new w _ _, rfl, fun k hk => by
    have : k = 0 ∨ k = 1 ∨ k = 2 ∨ k = 3 ∨ k = 4 := by omega
    rcases this with rfl | rfl | rfl | rfl | rfl <;> rfl⟩
def Lp (w : World) (B1 B2 : Nat) (f g : Nat → Value) (wr : World) : Prop := RowAt wr B1 25 5 f ∧ RowAt wr B2 25 5 g ∧ Below w.heap.size w wr ∧ w.heap.size ≤ B1 ∧ w.heap.size ≤ B2 ∧ B1 ≠ B2
theorem Lp.set2 {w wr : World} {B1 B2 : Nat} {f g : Nat → Value} (h : Lp w B1 B2 f g wr) (k : Nat) (v : Value) (g' : Nat → Value) (e : ∀ j, j < 5 → upd g k v j = g' j) : Lp w B1 B2 f g' (wr.setCell ⟨B2, k, none⟩ v) :=
  ⟨h.1.same (Below.heap_setCell _ _ _ _ h.2.2.2.2.2), (h.2.1.store k v).congr e, h.2.2.1.setCell h.2.2.2.2.1 _, h.2.2.2⟩
theorem Lp.set1 {w wr : World} {B1 B2 : Nat} {f g : Nat → Value} (h : Lp w B1 B2 f g wr) (k : Nat) (v : Value) (f' : Nat → Value) (e : ∀ j, j < 5 → upd f k v j = f' j) : Lp w B1 B2 f' g (wr.setCell ⟨B1, k, none⟩ v) :=
  ⟨(h.1.store k v).congr e, h.2.1.same (Below.heap_setCell _ _ _ _ (fun c => h.2.2.2.2.2 c.symm)), h.2.2.1.setCell h.2.2.2.1 _, h.2.2.2⟩
theorem mode_ne (i j : Nat) (hij : j < i) (hi : i < 5) : ((mode j).toList == (mode i).toList) = false := by
  have h1 : i = 1 ∨ i = 2 ∨ i = 3 ∨ i = 4 := by omega
  have h2 : j = 0 ∨ j = 1 ∨ j = 2 ∨ j = 3 := by omega
  rcases h1 with rfl | rfl | rfl | rfl <;> rcases h2 with rfl | rfl | rfl | rfl <;> first | omega | (rw [ByteArray.toList_eq, ByteArray.toList_eq]; decide)
theorem cell_drawn {w wr : World} {a : Addr} {v : Value} (h : w.cell? a = some v) (hq : Hid (∃ q, wr = w.drewN q)) : wr.cell? a = some v := by
  obtain ⟨q, rfl⟩ := hq
  exact (World.cell?_of_block (w := w) rfl).trans h
theorem drawn_more {w wr : World} (h : Hid (∃ q, wr = w.drewN q)) (m : Nat) : Hid (∃ q, wr.drewN m = w.drewN q) := by
  obtain ⟨q, rfl⟩ := h
  exact ⟨q + m, by simp [World.drewN, Nat.add_assoc]⟩

set_option maxRecDepth 20000 in
set_option maxHeartbeats 2000000 in
theorem subs_any (s : ByteArray) (w : World) (hs : s.size ≤ maxLen) : Calls Try.prog 3 #[.string s] w fun e w' => e = .returned (.bool true) ∧ Below w.heap.size w w' := by
  have CB := hide (bytes_any s w hs)
  have CM : ∀ wq : World, Hid (Calls Try.prog 5 #[] wq fun e w' => e = .returned (.slice (some ⟨wq.heap.size, 0, none⟩) 5 5) ∧ w' = wq.alloc (.cells #[.string (mode 0), .string (mode 1), .string (mode 2), .string (mode 3), .string (mode 4)] 25)) := fun wq => hide (modes_any wq)
  unfold maxLen at hs
  by_cases h : (1048576 : Int) < (s.size : Int)
  · go_enter Try.func3, Try.ntmps3
    go_wp2_with fail
    refine (unhide CB).mono ?_
    rintro e w' ⟨r, rfl, rfl⟩
    cases r
    · go_wp2_with fail
      go_ret
      exact ⟨rfl, Below.refl _ _⟩
    · go_wp2_with fail
      go_ret
      exact ⟨rfl, Below.refl _ _⟩
  go_enter Try.func3, Try.ntmps3
  go_wp2_with fail
  refine (unhide CB).mono ?_
  rintro e w' ⟨r, rfl, rfl⟩
  cases r
  · go_wp2_with fail
    go_ret
    exact ⟨rfl, Below.refl _ _⟩
  go_wp2_with fail
  refine (unhide (CM _)).mono ?_
  rintro e w1 ⟨rfl, hw1⟩
  have k23 := make5
  obtain ⟨B1, hB1⟩ : ∃ B1, w.heap.size = B1 := ⟨_, rfl⟩
  obtain ⟨B2, hB2⟩ : ∃ B2, w1.heap.size = B2 := ⟨_, rfl⟩
  have hB21 : B2 = B1 + 1 := by rw [← hB2, hw1, ← hB1]; show (w.heap.push _).size = _; simp
  have HLP : Hid (Lp w B1 B2 (fun j => .string (mode j)) (fun _ => .string { data := #[] }) (w1.alloc (.cells #[.string { data := #[] }, .string { data := #[] }, .string { data := #[] }, .string { data := #[] }, .string { data := #[] }] 25))) := hide (by
    refine ⟨?_, by rw [← hB2]; exact row_empty w1, ?_, by omega, by omega, by omega⟩
    · refine RowAt.same (w := w1) ?_ (Below.heap_alloc _ _ _ (by omega))
      rw [hw1, ← hB1]; exact row_modes w
    · rw [hw1]
      exact ((Below.refl _ _).alloc (Nat.le_refl _) _).alloc (by show w.heap.size ≤ (w.heap.push _).size; simp) _)
  have HB1 := hide hB1
  have HB2 := hide hB2
  have HB21 := hide hB21
  clear hw1 CB hB21
  go_wp2_with fail
  clear hB1 hB2 k23
  go_loopw [5] (fun x wr => ∃ k : Nat, k ≤ 5 ∧ x = .int .i64 (k : Int) ∧ Hid (Lp w B1 B2 (fun j => .string (mode j)) (fun j => .string (if j < k then mode j else { data := #[] })) wr)) (fun x _ => 5 - (intOf x).toNat)
  case atStart => exact ⟨0, by omega, rfl, hide (unhide HLP)⟩
  case round =>
    clear HLP
    obtain ⟨k, hk, rfl, hl⟩ := hrel
    by_cases hlt : k < 5
    · have hlt2 : (k : Int) < 5 := by omega
      have c1 := (unhide hl).1.cell k hlt
      have c2 := (unhide hl).2.1.cell k hlt
      have f2 := (unhide hl).2.1.free k
      have hn := hide ((unhide hl).set2 k (.string (mode k)) (fun j => .string (if j < k + 1 then mode j else { data := #[] })) (fun j hj => by
        unfold upd
        by_cases e : j = k
        · subst e; rw [if_pos rfl, if_pos (by omega)]
        · rw [if_neg e]
          simp only []
          by_cases c : j < k
          · rw [if_pos c, if_pos (by omega)]
          · rw [if_neg c, if_neg (by omega)]))
      clear hl
      go_wp2_with fail
      go_roundw
      case rel => exact ⟨k + 1, by omega, by go_num, hn⟩
      case measure => simp [intOf]; omega
    · have hge : ¬ (k : Int) < 5 := by omega
      have hl5 : Hid (Lp w B1 B2 (fun j => .string (if j < 0 then s else mode j)) (fun j => .string (mode j)) wr) := hide (by
        obtain ⟨h1, h2, h3⟩ := unhide hl
        refine ⟨h1.congr (fun j hj => by rw [if_neg (by omega)]), h2.congr (fun j hj => by rw [if_pos (by omega)]), h3⟩)
      clear hl
      go_wp2_with fail
      obtain ⟨wa, hwa⟩ : ∃ wa, wa = wr := ⟨_, rfl⟩
      subst hwa
      go_loopw [6] (fun x wr => ∃ k : Nat, k ≤ 5 ∧ x = .int .i64 (k : Int) ∧ Hid (Lp w B1 B2 (fun j => .string (if j < k then s else mode j)) (fun j => .string (mode j)) wr)) (fun x _ => 5 - (intOf x).toNat)
      case atStart => exact ⟨0, by omega, rfl, hl5⟩
      case round =>
        clear hl5
        obtain ⟨j, hj, rfl, hl⟩ := hrel
        by_cases hlt : j < 5
        · have hlt2 : (j : Int) < 5 := by omega
          have c1 := (unhide hl).1.cell j hlt
          have f1 := (unhide hl).1.free j
          have hn := hide ((unhide hl).set1 j (.string s) (fun i => .string (if i < j + 1 then s else mode i)) (fun i hi => by
            unfold upd
            by_cases e : i = j
            · subst e; rw [if_pos rfl, if_pos (by omega)]
            · rw [if_neg e]
              simp only []
              by_cases c : i < j
              · rw [if_pos c, if_pos (by omega)]
              · rw [if_neg c, if_neg (by omega)]))
          clear hl
          go_wp2_with fail
          go_roundw
          case rel => exact ⟨j + 1, by omega, by go_num, hn⟩
          case measure => simp [intOf]; omega
        · have hge : ¬ (j : Int) < 5 := by omega
          go_wp2_with fail
          refine (unhide (CM _)).mono ?_
          rintro e w3 ⟨rfl, hw3⟩
          obtain ⟨B3, hB3⟩ : ∃ B3, wr.heap.size = B3 := ⟨_, rfl⟩
          have hrows : Hid ((∀ i, i < 5 → w3.cell? ⟨B3, i, none⟩ = some (.string (mode i))) ∧ (∀ i, i < 5 → w3.cell? ⟨B2, i, none⟩ = some (.string (mode i))) ∧ Below w.heap.size w w3) := hide (by
            obtain ⟨h1, h2, h3, h4, h5, h6⟩ := unhide hl
            refine ⟨fun i hi => ?_, fun i hi => ?_, ?_⟩
            · rw [hw3, ← hB3]; exact (row_modes wr).cell i hi
            · rw [hw3]; exact (h2.same (Below.heap_alloc _ _ _ h2.lt)).cell i hi
            · rw [hw3]; exact h3.alloc h3.size _)
          rw [hB3]
          clear hw3 hB3 hl
          go_wp2_with fail
          go_loopw [8] (fun x wr => ∃ i : Nat, i ≤ 5 ∧ x = .int .i64 (i : Int) ∧ Hid (∃ q, wr = w3.drewN q)) (fun x _ => 5 - (intOf x).toNat)
          case atStart => exact ⟨0, by omega, rfl, hide ⟨0, rfl⟩⟩
          case round =>
            obtain ⟨i, hi, rfl, hq⟩ := hrel
            by_cases hlt : i < 5
            · have hlt2 : (i : Int) < 5 := by omega
              have c1 := cell_drawn ((unhide hrows).1 i hlt) hq
              have c2 := cell_drawn ((unhide hrows).2.1 i hlt) hq
              go_wp2_with fail
              go_quiet (fail)
              go_wp2_with fail
              have hq' := drawn_more hq nq
              obtain ⟨wb, hwb⟩ : ∃ wb, wb = wr.drewN nq := ⟨_, rfl⟩
              rw [← hwb] at hq' ⊢
              clear hwb c1 c2 hq
              go_loopw [9] (fun x wr => ∃ j : Nat, j ≤ i ∧ x = .int .i64 (j : Int) ∧ Hid (∃ q, wr = w3.drewN q)) (fun x _ => i - (intOf x).toNat)
              case atStart => exact ⟨0, Nat.zero_le _, rfl, hq'⟩
              case round =>
                obtain ⟨j2, hj2, rfl, hq2⟩ := hrel
                clear hq'
                have c1 := cell_drawn ((unhide hrows).1 i hlt) hq2
                by_cases hji : j2 < i
                · have hji2 : (j2 : Int) < (i : Int) := by omega
                  have hj25 : (j2 : Int) < 5 := by omega
                  have c2 := cell_drawn ((unhide hrows).1 j2 (by omega)) hq2
                  have hne := mode_ne i j2 hji hlt
                  go_wp2_with fail
                  go_quiet (fail)
                  go_wp2_with fail
                  go_roundw
                  case rel => exact ⟨j2 + 1, by omega, by go_num, drawn_more hq2 _⟩
                  case measure => simp [intOf]; omega
                · have hji2 : ¬ (j2 : Int) < (i : Int) := by omega
                  have h5 : i = 0 ∨ i = 1 ∨ i = 2 ∨ i = 3 ∨ i = 4 := by omega
                  obtain rfl : j2 = i := by omega
                  rcases h5 with rfl | rfl | rfl | rfl | rfl
                  · have m0 : ((mode 0).toList == [78, 111, 110, 101]) = true := by rw [ByteArray.toList_eq]; decide
                    go_wp2_with fail
                    go_roundw
                    case rel => exact ⟨0 + 1, by omega, by go_num, hq2⟩
                    case measure => simp [intOf]
                  · have m0 : ((mode 1).toList == [78, 111, 110, 101]) = false := by rw [ByteArray.toList_eq]; decide
                    have m1 : ((mode 1).toList == [68, 101, 102, 97, 117, 108, 116]) = true := by rw [ByteArray.toList_eq]; decide
                    go_wp2_with fail
                    go_roundw
                    case rel => exact ⟨1 + 1, by omega, by go_num, hq2⟩
                    case measure => simp [intOf]
                  · have m0 : ((mode 2).toList == [78, 111, 110, 101]) = false := by rw [ByteArray.toList_eq]; decide
                    have m1 : ((mode 2).toList == [68, 101, 102, 97, 117, 108, 116]) = false := by rw [ByteArray.toList_eq]; decide
                    have m2 : ((mode 2).toList == [80, 114, 101, 102, 101, 114, 70, 111, 114, 99, 101, 100]) = true := by rw [ByteArray.toList_eq]; decide
                    go_wp2_with fail
                    go_roundw
                    case rel => exact ⟨2 + 1, by omega, by go_num, hq2⟩
                    case measure => simp [intOf]
                  · have m0 : ((mode 3).toList == [78, 111, 110, 101]) = false := by rw [ByteArray.toList_eq]; decide
                    have m1 : ((mode 3).toList == [68, 101, 102, 97, 117, 108, 116]) = false := by rw [ByteArray.toList_eq]; decide
                    have m2 : ((mode 3).toList == [80, 114, 101, 102, 101, 114, 70, 111, 114, 99, 101, 100]) = false := by rw [ByteArray.toList_eq]; decide
                    have m3 : ((mode 3).toList == [65, 108, 119, 97, 121, 115]) = true := by rw [ByteArray.toList_eq]; decide
                    go_wp2_with fail
                    go_roundw
                    case rel => exact ⟨3 + 1, by omega, by go_num, hq2⟩
                    case measure => simp [intOf]
                  · have m0 : ((mode 4).toList == [78, 111, 110, 101]) = false := by rw [ByteArray.toList_eq]; decide
                    have m1 : ((mode 4).toList == [68, 101, 102, 97, 117, 108, 116]) = false := by rw [ByteArray.toList_eq]; decide
                    have m2 : ((mode 4).toList == [80, 114, 101, 102, 101, 114, 70, 111, 114, 99, 101, 100]) = false := by rw [ByteArray.toList_eq]; decide
                    have m3 : ((mode 4).toList == [65, 108, 119, 97, 121, 115]) = false := by rw [ByteArray.toList_eq]; decide
                    have m4 : ((mode 4).toList == [79, 110, 108, 121, 73, 102, 65, 117, 100, 105, 111, 78, 111, 116, 80, 114, 101, 102, 101, 114, 114, 101, 100]) = true := by rw [ByteArray.toList_eq]; decide
                    go_wp2_with fail
                    go_roundw
                    case rel => exact ⟨4 + 1, by omega, by go_num, hq2⟩
                    case measure => simp [intOf]
            · have hge : ¬ (i : Int) < 5 := by omega
              go_wp2_with fail
              go_ret
              refine ⟨rfl, ?_⟩
              obtain ⟨q, rfl⟩ := hq
              obtain ⟨_, _, hb⟩ := unhide hrows
              exact ⟨hb.os, hb.tape, hb.output, hb.size, hb.block⟩
end Go.Proofs.Qxb6615692a
