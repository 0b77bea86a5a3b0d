import Derived.Test.Qxb6615473aBucket
import Derived.RegionTactic
import Derived.Deep.RegionWith
import Derived.Deep.RegionHeld3
namespace Go.Proofs.Qxb6615473a
open Go.RowKit
set_option linter.unusedVariables false

set_option maxHeartbeats 4000000 in
theorem add_raw (b : Nat) (d c t x y : Int) (dn j : Nat) (w : World) (hd : max d 0 = (dn : Int)) (hdn : dn < 9223372036854775808) (hj : bkt dn = j) (hj2 : j < 1888)
    (hc : 0 ≤ c ∧ c ≤ 1000000) (ht : 0 ≤ t ∧ t ≤ 9223372036854775807) (hx : 0 ≤ x ∧ x ≤ 9223372036854775807) (hy : 0 ≤ y ∧ y ≤ 1000000)
    (c1 : w.cell? ⟨b, 11, none⟩ = some (.int .i64 c)) (c2 : w.cell? ⟨b, 12, none⟩ = some (.int .i64 t)) (c3 : w.cell? ⟨b, 13, none⟩ = some (.int .i64 x)) (c4 : w.cell? ⟨b, 14 + j, none⟩ = some (.int .i64 y))
    (f1 : w.frozen? ⟨b, 11, none⟩ = false) (f2 : w.frozen? ⟨b, 12, none⟩ = false) (f3 : w.frozen? ⟨b, 13, none⟩ = false) (f4 : w.frozen? ⟨b, 14 + j, none⟩ = false) :
    Calls Try.prog 34 #[.pointer (some ⟨b, 11, none⟩), .int .i64 d] w fun e w' => e = .returned (.tuple #[]) ∧ ∃ q, w' = ((((w.setCell ⟨b, 11, none⟩ (.int .i64 (c + 1))).setCell ⟨b, 12, none⟩ (.int .i64 (if 9223372036854775807 - (dn : Int) < t then 9223372036854775807 else t + dn))).setCell ⟨b, 13, none⟩ (.int .i64 (max x dn))).setCell ⟨b, 14 + j, none⟩ (.int .i64 (y + 1))).drewN q := by
  have C : ∀ w : World, Hid (Calls Try.prog 44 #[.int .i64 (dn : Int)] w fun e w' => e = .returned (.int .i64 (j : Int)) ∧ w = w') := fun w => hide (by rw [← hj]; exact bucket_any dn w hdn)
  have hj3 : (j : Int) < 1888 := by omega
  have hne1 : 14 + j ≠ 11 := by omega
  have hne2 : 14 + j ≠ 12 := by omega
  have hne3 : 14 + j ≠ 13 := by omega
  have hxd : 0 ≤ max x (dn : Int) ∧ max x (dn : Int) ≤ 9223372036854775807 := by omega
  have hw1 : wrap64 (9223372036854775807 - (dn : Int)) = 9223372036854775807 - (dn : Int) := by unfold wrap64; omega
  have hwr : Hid (IntKind.i64.wrap (y + 1) = y + 1) := hide (by rw [IntKind.wrap_i64]; omega)
  clear hj
  by_cases hlt : 9223372036854775807 - (dn : Int) < t
  · rw [if_pos hlt]
    go_enter Try.func34, Try.ntmps34
    go_wp2_with fail
    generalize hw3 : ((w.setCell ⟨b, 11, none⟩ (.int .i64 (c + 1))).setCell ⟨b, 12, none⟩ (.int .i64 (9223372036854775807))).setCell ⟨b, 13, none⟩ (.int .i64 (max x dn)) = w3
    have d4 : w3.cell? ⟨b, 14 + j, none⟩ = some (.int .i64 y) := by
      rw [← hw3, World.cell?_setCell_other _ _ _ _ (by simp), World.cell?_setCell_other _ _ _ _ (by simp), World.cell?_setCell_other _ _ _ _ (by simp)]
      exact c4
    have g4 : w3.frozen? ⟨b, 14 + j, none⟩ = false := by rw [← hw3]; simpa using f4
    have HW3 := hide hw3
    clear hw3 c1 c2 c3 c4 f1 f2 f3 f4
    go_region_with ((go_at_call 44; refine (unhide (C _)).mono ?_; rintro e w' ⟨rfl, hw⟩; obtain rfl := hw.symm))
    all_goals (go_end0; refine ⟨rfl, 1, ?_⟩; rw [unhide HW3, unhide hwr]; rfl)
  · rw [if_neg hlt]
    have hw2 : wrap64 (t + (dn : Int)) = t + (dn : Int) := by unfold wrap64; omega
    go_enter Try.func34, Try.ntmps34
    go_wp2_with fail
    generalize hw3 : ((w.setCell ⟨b, 11, none⟩ (.int .i64 (c + 1))).setCell ⟨b, 12, none⟩ (.int .i64 (t + dn))).setCell ⟨b, 13, none⟩ (.int .i64 (max x dn)) = w3
    have d4 : w3.cell? ⟨b, 14 + j, none⟩ = some (.int .i64 y) := by
      rw [← hw3, World.cell?_setCell_other _ _ _ _ (by simp), World.cell?_setCell_other _ _ _ _ (by simp), World.cell?_setCell_other _ _ _ _ (by simp)]
      exact c4
    have g4 : w3.frozen? ⟨b, 14 + j, none⟩ = false := by rw [← hw3]; simpa using f4
    have HW3 := hide hw3
    clear hw3 c1 c2 c3 c4 f1 f2 f3 f4
    go_region_with ((go_at_call 44; refine (unhide (C _)).mono ?_; rintro e w' ⟨rfl, hw⟩; obtain rfl := hw.symm))
    all_goals (go_end0; refine ⟨rfl, 1, ?_⟩; rw [unhide HW3, unhide hwr]; rfl)
end Go.Proofs.Qxb6615473a
