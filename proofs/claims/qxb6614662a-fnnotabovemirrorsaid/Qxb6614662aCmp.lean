import Derived.Test.Qxb6614662aWf
import Derived.RowKit3
import Derived.Deep.RegionHeld3
import Derived.Laws.Pointers
import Derived.StillTactics
namespace Go.Proofs.Qxb6614662a
open Go.RowKit
set_option linter.unusedVariables false

set_option maxHeartbeats 1000000 in
theorem or_any (b : Nat) (x y z : Int) (w : World) (c0 : w.cell? ⟨b, 0, none⟩ = some (.int .i64 x)) (c1 : w.cell? ⟨b, 1, none⟩ = some (.int .i64 y)) (c2 : w.cell? ⟨b, 2, none⟩ = some (.int .i64 z)) :
    Calls Try.prog 32 #[.slice (some ⟨b, 0, none⟩) 3 3] w fun e w' => e = .returned (.int .i64 (Pl.or2 x (Pl.or2 y z))) ∧ w' = w := by
  go_enter Try.func32, Try.ntmps32
  go_wp2
  go_loop [8] (fun i => ∃ k : Nat, k ≤ 3 ∧ i = .int .i64 k ∧ Hid ((0 < k → x = 0) ∧ (1 < k → y = 0) ∧ (2 < k → z = 0))) (fun i => 3 - (intOf i).toNat)
  case atStart => exact ⟨0, by omega, rfl, hide ⟨by omega, by omega, by omega⟩⟩
  case round =>
    obtain ⟨k, hk, rfl, hd⟩ := hrel
    have H := unhide hd
    rcases (by omega : k = 0 ∨ k = 1 ∨ k = 2 ∨ k = 3) with rfl | rfl | rfl | rfl
    · by_cases hx : (x != 0) = true
      · go_wp2
        go_ret
        exact ⟨ret_int (by unfold Pl.or2; rw [if_neg (by simpa using hx)]), rfl⟩
      · have hx' : (x != 0) = false := by simpa using hx
        go_wp2
        go_round
        case rel => exact ⟨1, by omega, by go_num, hide ⟨fun _ => by simpa using hx, by omega, by omega⟩⟩
        case measure => simp [intOf]
    · have hx := hide (H.1 (by omega))
      clear H hd
      by_cases hy : (y != 0) = true
      · go_wp2
        go_ret
        exact ⟨ret_int (by unfold Pl.or2; rw [if_pos (unhide hx), if_neg (by simpa using hy)]), rfl⟩
      · have hy' : (y != 0) = false := by simpa using hy
        go_wp2
        go_round
        case rel => exact ⟨2, by omega, by go_num, hide ⟨fun _ => unhide hx, fun _ => by simpa using hy, by omega⟩⟩
        case measure => simp [intOf]
    · have hx := hide (H.1 (by omega))
      have hy := hide (H.2.1 (by omega))
      clear H hd
      by_cases hz : (z != 0) = true
      · go_wp2
        go_ret
        exact ⟨ret_int (by unfold Pl.or2; rw [if_pos (unhide hx), if_pos (unhide hy)]), rfl⟩
      · have hz' : (z != 0) = false := by simpa using hz
        go_wp2
        go_round
        case rel => exact ⟨3, by omega, by go_num, hide ⟨fun _ => unhide hx, fun _ => unhide hy, fun _ => by simpa using hz⟩⟩
        case measure => simp [intOf]
    · have hx := hide (H.1 (by omega))
      have hy := hide (H.2.1 (by omega))
      have hz := hide (H.2.2 (by omega))
      clear H hd
      go_wp2
      go_ret
      exact ⟨ret_int (by unfold Pl.or2; rw [if_pos (unhide hx), if_pos (unhide hy), unhide hz]), rfl⟩

theorem cmp3_sizes (aw af bw bf : ByteArray) : Pl.cmp3 aw.data.toList af.data.toList bw.data.toList bf.data.toList = Pl.or2 (Lib.compareInt aw.size bw.size) (Pl.or2 (Lib.compareBytes aw.data.toList bw.data.toList) (Lib.compareBytes af.data.toList bf.data.toList)) := by
  unfold Pl.cmp3; rw [size_len, size_len]
theorem or2_range {a b : Int} (h1 : -1 ≤ a ∧ a ≤ 1) (h2 : -1 ≤ b ∧ b ≤ 1) : -1 ≤ Pl.or2 a b ∧ Pl.or2 a b ≤ 1 := by
  unfold Pl.or2; split <;> assumption
theorem cmpB_range (a b : List UInt8) : -1 ≤ Lib.compareBytes a b ∧ Lib.compareBytes a b ≤ 1 := by
  have := Pl.compareBytes_range a b; omega
theorem cmpI_range (a b : Int) : -1 ≤ Lib.compareInt a b ∧ Lib.compareInt a b ≤ 1 := by
  unfold Lib.compareInt; split
  · omega
  · split <;> omega

set_option maxHeartbeats 2000000 in
theorem cmp_same (n : Bool) (aw af bw bf : ByteArray) (w : World) (m1 : aw.size ≤ 65536) (m2 : bw.size ≤ 65536) :
    Calls Try.prog 26 #[.agg #[.bool n, .string aw, .string af], .agg #[.bool n, .string bw, .string bf]] w fun e w' => e = .returned (.int .i64 (Pl.dcmp n aw.data.toList af.data.toList n bw.data.toList bf.data.toList)) ∧ Grown w w' := by
  have hc := hide (cmp3_sizes aw af bw bf)
  have hr := or2_range (cmpI_range aw.size bw.size) (or2_range (cmpB_range aw.data.toList bw.data.toList) (cmpB_range af.data.toList bf.data.toList))
  obtain ⟨hr1, hr2⟩ := hr
  cases n
  all_goals
    go_enter Try.func26, Try.ntmps26
    go_wp2
    go_region_held3 (fun w' => w'.cell? ⟨w.heap.size, 1, none⟩ = some (.string aw) ∧ w'.cell? ⟨w.heap.size, 2, none⟩ = some (.string af) ∧ w'.cell? ⟨w.heap.size + 1, 1, none⟩ = some (.string bw) ∧ w'.cell? ⟨w.heap.size + 1, 2, none⟩ = some (.string bf)) (simp [go_sem, World.cell?_alloc_past])
      (first
        | (go_at_call 33; refine (cmpInt_any _ _ _).mono ?_; rintro e w' ⟨rfl, rfl⟩)
        | (go_at_call 34; refine (strCompare_any _ _ _).mono ?_; rintro e w' ⟨rfl, rfl⟩)
        | (go_at_call 32; refine (or_any _ (Lib.compareInt aw.size bw.size) (Lib.compareBytes aw.data.toList bw.data.toList) (Lib.compareBytes af.data.toList bf.data.toList) _ ?_ ?_ ?_).mono ?_; (case refine_1 => simp [go_sem]); (case refine_2 => simp [go_sem]); (case refine_3 => simp [go_sem]); rintro e w' ⟨rfl, rfl⟩))
    go_wp2
    go_ret
    exact ⟨ret_int (by unfold Pl.dcmp; rw [unhide hc]; rfl), by repeat (first | exact Grown.refl _ | apply Grown.drew | apply Grown.alloc)⟩

set_option maxHeartbeats 1000000 in
theorem cmp_other (an bn : Bool) (aw af bw bf : ByteArray) (w : World) (h : (an != bn) = true) :
    Calls Try.prog 26 #[.agg #[.bool an, .string aw, .string af], .agg #[.bool bn, .string bw, .string bf]] w fun e w' => e = .returned (.int .i64 (Pl.dcmp an aw.data.toList af.data.toList bn bw.data.toList bf.data.toList)) ∧ Grown w w' := by
  cases an <;> cases bn <;> (try (cases h; done))
  all_goals
    go_enter Try.func26, Try.ntmps26
    go_wp2
    go_ret
    exact ⟨rfl, by repeat (first | exact Grown.refl _ | apply Grown.drew | apply Grown.alloc)⟩

theorem cmp_any (an bn : Bool) (aw af bw bf : ByteArray) (w : World) (m1 : aw.size ≤ 65536) (m2 : bw.size ≤ 65536) :
    Calls Try.prog 26 #[.agg #[.bool an, .string aw, .string af], .agg #[.bool bn, .string bw, .string bf]] w fun e w' => e = .returned (.int .i64 (Pl.dcmp an aw.data.toList af.data.toList bn bw.data.toList bf.data.toList)) ∧ Grown w w' := by
  cases an <;> cases bn
  · exact cmp_same false aw af bw bf w m1 m2
  · exact cmp_other false true aw af bw bf w rfl
  · exact cmp_other true false aw af bw bf w rfl
  · exact cmp_same true aw af bw bf w m1 m2

end Go.Proofs.Qxb6614662a
