import Derived.Test.Qxb6614662aCmp
namespace Go.Proofs.Qxb6614662a
open Go.RowKit
set_option linter.unusedVariables false

theorem grown_trans {a b c : World} (h1 : Grown a b) (h2 : Grown b c) : Grown a c :=
  ⟨World.keptBut_trans h1.1 h2.1, fun x => (h2.2.1 x).trans (h1.2.1 x), Nat.le_trans h1.2.2 h2.2.2⟩

set_option maxHeartbeats 1000000 in
theorem notAbove_any (ab an : Bool) (aw af : ByteArray) (bb bn : Bool) (bw bf : ByteArray) (w : World) (m1 : aw.size ≤ 65536) (m2 : bw.size ≤ 65536) :
    Calls Try.prog 22 #[.agg #[.bool an, .string aw, .string af, .bool ab], .agg #[.bool bn, .string bw, .string bf, .bool bb]] w fun e w' => e = .returned (.bool (Pl.notAb ab an aw.data.toList af.data.toList bb bn bw.data.toList bf.data.toList)) ∧ Grown w w' := by
  cases ab
  · go_enter Try.func22, Try.ntmps22
    go_wp2
    go_ret
    exact ⟨rfl, by repeat (first | exact Grown.refl _ | apply Grown.drew | apply Grown.alloc)⟩
  · cases bb
    · go_enter Try.func22, Try.ntmps22
      go_wp2
      go_ret
      exact ⟨rfl, by repeat (first | exact Grown.refl _ | apply Grown.drew | apply Grown.alloc)⟩
    · go_enter Try.func22, Try.ntmps22
      go_wp2_with (go_at_call 26; refine (cmp_any _ _ _ _ _ _ _ m1 m2).mono ?_; rintro e w1 ⟨rfl, hg⟩)
      go_ret
      exact ⟨rfl, grown_trans (by repeat (first | exact Grown.refl _ | apply Grown.drew | apply Grown.alloc)) hg⟩

set_option maxHeartbeats 1000000 in
theorem zz_any (ab an : Bool) (aw af : ByteArray) (bb bn : Bool) (bw bf : ByteArray) (w : World) (m1 : aw.size ≤ 65536) (m2 : bw.size ≤ 65536) :
    Calls Try.prog 9 #[.bool ab, .bool an, .string aw, .string af, .bool bb, .bool bn, .string bw, .string bf] w fun e w' => e = .returned (.bool (Pl.notAb ab an aw.data.toList af.data.toList bb bn bw.data.toList bf.data.toList)) ∧ Grown w w' := by
  go_enter Try.func9, Try.ntmps9
  go_wp2_with (go_at_call 22; refine (notAbove_any _ _ _ _ _ _ _ _ _ m1 m2).mono ?_; rintro e w1 ⟨rfl, hg⟩)
  go_ret
  exact ⟨rfl, grown_trans (by repeat (first | exact Grown.refl _ | apply Grown.drew | apply Grown.alloc)) hg⟩

set_option maxHeartbeats 400000 in
theorem mir_any (n : Bool) (wh fr : ByteArray) (w : World) :
    Calls Try.prog 12 #[.bool n, .string wh, .string fr] w fun e w' => e = .returned (.bool (Pl.mir n wh.data.toList fr.data.toList)) ∧ w' = w := by
  have e1 := hide (nul_size wh)
  have e2 := hide (nul_size fr)
  cases h1 : wh.toList.isEmpty <;> cases h2 : fr.toList.isEmpty <;> cases n
  all_goals
    go_enter Try.func12, Try.ntmps12
    go_wp2
    go_ret
    exact ⟨ret_bool (by unfold Pl.mir; rw [unhide e1, unhide e2, h1, h2]; rfl), rfl⟩

set_option maxHeartbeats 1000000 in
theorem bytes7_any (ab an : Bool) (aw af : ByteArray) (bb bn : Bool) (bw bf : ByteArray) (w : World) (m1 : aw.size ≤ maxLen) (m2 : af.size ≤ maxLen) (m3 : bw.size ≤ maxLen) (m4 : bf.size ≤ maxLen) :
    Calls Try.prog 7 #[.bool ab, .bool an, .string aw, .string af, .bool bb, .bool bn, .string bw, .string bf] w fun e w' => ∃ r : Bool, e = .returned (.bool r) ∧ w' = w := by
  unfold maxLen at *
  go_enter Try.func7, Try.ntmps7
  go_wp2
  all_goals (go_ret; exact ⟨_, rfl, rfl⟩)
set_option maxHeartbeats 1000000 in
theorem bytes11_any (ab an : Bool) (aw af : ByteArray) (bb bn : Bool) (bw bf : ByteArray) (w : World) (m1 : aw.size ≤ maxLen) (m2 : af.size ≤ maxLen) (m3 : bw.size ≤ maxLen) (m4 : bf.size ≤ maxLen) :
    Calls Try.prog 11 #[.bool ab, .bool an, .string aw, .string af, .bool bb, .bool bn, .string bw, .string bf] w fun e w' => ∃ r : Bool, e = .returned (.bool r) ∧ w' = w := by
  unfold maxLen at *
  go_enter Try.func11, Try.ntmps11
  go_wp2
  all_goals (go_ret; exact ⟨_, rfl, rfl⟩)
end Go.Proofs.Qxb6614662a
