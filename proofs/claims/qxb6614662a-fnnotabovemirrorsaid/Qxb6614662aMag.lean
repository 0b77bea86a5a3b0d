import Derived.Test.Qxb6614662aLeaf
namespace Go.Proofs.Qxb6614662a
open Go.RowKit
set_option linter.unusedVariables false

/-! ### magnitudeCompare -/
theorem lexc_lt (f g : Nat → Nat) (n k : Nat) (hk : 0 < n) (h : f k < g k) : Pl.lexc f g n k = -1 := by
  obtain ⟨m, rfl⟩ : ∃ m, n = m + 1 := ⟨n - 1, by omega⟩
  unfold Pl.lexc; rw [if_pos h]
theorem lexc_gt (f g : Nat → Nat) (n k : Nat) (hk : 0 < n) (h : g k < f k) : Pl.lexc f g n k = 1 := by
  obtain ⟨m, rfl⟩ : ∃ m, n = m + 1 := ⟨n - 1, by omega⟩
  unfold Pl.lexc; rw [if_neg (by omega), if_pos h]
theorem lexc_on (f g : Nat → Nat) (n k : Nat) (hk : k < n) (h : ¬ f k < g k) (h' : ¬ g k < f k) : Pl.lexc f g (n - k) k = Pl.lexc f g (n - (k + 1)) (k + 1) := by
  obtain ⟨m, hm⟩ : ∃ m, n - k = m + 1 := ⟨n - k - 1, by omega⟩
  rw [hm, show n - (k + 1) = m by omega]
  conv => lhs; unfold Pl.lexc
  rw [if_neg h, if_neg h']
theorem lexc_end (f g : Nat → Nat) (n k : Nat) (hk : n ≤ k) : Pl.lexc f g (n - k) k = 0 := by
  rw [show n - k = 0 by omega]; rfl
theorem magW_start (aw bw : ByteArray) (n : Nat) (h : n = max aw.size bw.size) : Pl.magW aw.data.toList bw.data.toList = Pl.lexc (Pl.padL aw.data.toList n) (Pl.padL bw.data.toList n) (n - 0) 0 := by
  unfold Pl.magW; rw [size_len, size_len, ← h]; rfl
theorem magF_start (aw bw : ByteArray) (n : Nat) (h : n = max aw.size bw.size) : Pl.magF aw.data.toList bw.data.toList = Pl.lexc (Pl.padR aw.data.toList) (Pl.padR bw.data.toList) (n - 0) 0 := by
  unfold Pl.magF; rw [size_len, size_len, ← h]; rfl
theorem mag_of_W (aw af bw bf : List UInt8) (c : Int) (hc : c ≠ 0) (h : Pl.magW aw bw = c) : Pl.mag aw af bw bf = c := by
  unfold Pl.mag Pl.or2; rw [h, if_neg hc]
theorem mag_of_F (aw af bw bf : List UInt8) (c : Int) (h0 : Pl.magW aw bw = 0) (h : Pl.magF af bf = c) : Pl.mag aw af bw bf = c := by
  unfold Pl.mag Pl.or2; rw [h0, if_pos rfl, h]

set_option maxHeartbeats 1000000 in
theorem mag_way1 (aw af bw bf : ByteArray) (w : World) (h1 : aw.size ≤ 65536) (h3 : bw.size ≤ 65536) (h2 : af.size ≤ 65536) (h4 : bf.size ≤ 65536) (hN : ¬ (aw.size : Int) < (bw.size : Int)) (hM : ¬ (af.size : Int) < (bf.size : Int)) :
    Calls Try.prog 28 #[.string aw, .string af, .string bw, .string bf] w fun e w' => e = .returned (.int .i64 (Pl.mag aw.data.toList af.data.toList bw.data.toList bf.data.toList)) ∧ w' = w := by
  go_enter Try.func28, Try.ntmps28
  go_wp2
  go_loop [10] (fun i => ∃ k : Nat, k ≤ aw.size ∧ i = .int .i64 k ∧ Hid (Pl.magW aw.data.toList bw.data.toList = Pl.lexc (Pl.padL aw.data.toList aw.size) (Pl.padL bw.data.toList aw.size) (aw.size - k) k)) (fun i => aw.size - (intOf i).toNat)
  case atStart => exact ⟨0, Nat.zero_le _, rfl, hide (magW_start _ _ _ (by omega))⟩
  case round =>
    obtain ⟨k, hk, rfl, hd⟩ := hrel
    by_cases hlt : k < aw.size
    · by_cases h1 : (Pl.padL aw.data.toList aw.size k : Int) < (Pl.padL bw.data.toList aw.size k : Int)
      · go_wp2_with (go_at_call 35; refine (padLeft_any _ _ _ _ (by omega) (by omega) (by omega)).mono ?_; rintro e w' ⟨rfl, rfl⟩)
        go_ret
        exact ⟨ret_int (by rw [mag_of_W _ _ _ _ _ (by decide) ((unhide hd).trans (lexc_lt _ _ _ _ (by omega) (by omega)))]), rfl⟩
      · by_cases h2 : (Pl.padL bw.data.toList aw.size k : Int) < (Pl.padL aw.data.toList aw.size k : Int)
        · go_wp2_with (go_at_call 35; refine (padLeft_any _ _ _ _ (by omega) (by omega) (by omega)).mono ?_; rintro e w' ⟨rfl, rfl⟩)
          go_ret
          exact ⟨ret_int (by rw [mag_of_W _ _ _ _ _ (by decide) ((unhide hd).trans (lexc_gt _ _ _ _ (by omega) (by omega)))]), rfl⟩
        · go_wp2_with (go_at_call 35; refine (padLeft_any _ _ _ _ (by omega) (by omega) (by omega)).mono ?_; rintro e w' ⟨rfl, rfl⟩)
          go_round
          case rel => exact ⟨k + 1, by omega, by go_num, hide ((unhide hd).trans (lexc_on _ _ _ _ (by omega) (by omega) (by omega)))⟩
          case measure => simp [intOf]; omega
    · have h0 : Hid (Pl.magW aw.data.toList bw.data.toList = 0) := hide ((unhide hd).trans (lexc_end _ _ _ _ (by omega)))
      clear hd
      go_wp2
      go_loop [14] (fun i => ∃ k : Nat, k ≤ af.size ∧ i = .int .i64 k ∧ Hid (Pl.magF af.data.toList bf.data.toList = Pl.lexc (Pl.padR af.data.toList) (Pl.padR bf.data.toList) (af.size - k) k)) (fun i => af.size - (intOf i).toNat)
      case atStart => exact ⟨0, Nat.zero_le _, rfl, hide (magF_start _ _ _ (by omega))⟩
      case round =>
        obtain ⟨j, hj, rfl, hd⟩ := hrel
        by_cases hlt : j < af.size
        · by_cases h1 : (Pl.padR af.data.toList j : Int) < (Pl.padR bf.data.toList j : Int)
          · go_wp2_with (go_at_call 36; refine (padRight_any _ _ _).mono ?_; rintro e w' ⟨rfl, rfl⟩)
            go_ret
            exact ⟨ret_int (by rw [mag_of_F _ _ _ _ _ (unhide h0) ((unhide hd).trans (lexc_lt _ _ _ _ (by omega) (by omega)))]), rfl⟩
          · by_cases h2 : (Pl.padR bf.data.toList j : Int) < (Pl.padR af.data.toList j : Int)
            · go_wp2_with (go_at_call 36; refine (padRight_any _ _ _).mono ?_; rintro e w' ⟨rfl, rfl⟩)
              go_ret
              exact ⟨ret_int (by rw [mag_of_F _ _ _ _ _ (unhide h0) ((unhide hd).trans (lexc_gt _ _ _ _ (by omega) (by omega)))]), rfl⟩
            · go_wp2_with (go_at_call 36; refine (padRight_any _ _ _).mono ?_; rintro e w' ⟨rfl, rfl⟩)
              go_round
              case rel => exact ⟨j + 1, by omega, by go_num, hide ((unhide hd).trans (lexc_on _ _ _ _ (by omega) (by omega) (by omega)))⟩
              case measure => simp [intOf]; omega
        · go_wp2
          go_ret
          exact ⟨ret_int (by rw [mag_of_F _ _ _ _ _ (unhide h0) ((unhide hd).trans (lexc_end _ _ _ _ (by omega)))]), rfl⟩

set_option maxHeartbeats 1000000 in
theorem mag_way2 (aw af bw bf : ByteArray) (w : World) (h1 : aw.size ≤ 65536) (h3 : bw.size ≤ 65536) (h2 : af.size ≤ 65536) (h4 : bf.size ≤ 65536) (hN : ¬ (aw.size : Int) < (bw.size : Int)) (hM : (af.size : Int) < (bf.size : Int)) :
    Calls Try.prog 28 #[.string aw, .string af, .string bw, .string bf] w fun e w' => e = .returned (.int .i64 (Pl.mag aw.data.toList af.data.toList bw.data.toList bf.data.toList)) ∧ w' = w := by
  go_enter Try.func28, Try.ntmps28
  go_wp2
  go_loop [10] (fun i => ∃ k : Nat, k ≤ aw.size ∧ i = .int .i64 k ∧ Hid (Pl.magW aw.data.toList bw.data.toList = Pl.lexc (Pl.padL aw.data.toList aw.size) (Pl.padL bw.data.toList aw.size) (aw.size - k) k)) (fun i => aw.size - (intOf i).toNat)
  case atStart => exact ⟨0, Nat.zero_le _, rfl, hide (magW_start _ _ _ (by omega))⟩
  case round =>
    obtain ⟨k, hk, rfl, hd⟩ := hrel
    by_cases hlt : k < aw.size
    · by_cases h1 : (Pl.padL aw.data.toList aw.size k : Int) < (Pl.padL bw.data.toList aw.size k : Int)
      · go_wp2_with (go_at_call 35; refine (padLeft_any _ _ _ _ (by omega) (by omega) (by omega)).mono ?_; rintro e w' ⟨rfl, rfl⟩)
        go_ret
        exact ⟨ret_int (by rw [mag_of_W _ _ _ _ _ (by decide) ((unhide hd).trans (lexc_lt _ _ _ _ (by omega) (by omega)))]), rfl⟩
      · by_cases h2 : (Pl.padL bw.data.toList aw.size k : Int) < (Pl.padL aw.data.toList aw.size k : Int)
        · go_wp2_with (go_at_call 35; refine (padLeft_any _ _ _ _ (by omega) (by omega) (by omega)).mono ?_; rintro e w' ⟨rfl, rfl⟩)
          go_ret
          exact ⟨ret_int (by rw [mag_of_W _ _ _ _ _ (by decide) ((unhide hd).trans (lexc_gt _ _ _ _ (by omega) (by omega)))]), rfl⟩
        · go_wp2_with (go_at_call 35; refine (padLeft_any _ _ _ _ (by omega) (by omega) (by omega)).mono ?_; rintro e w' ⟨rfl, rfl⟩)
          go_round
          case rel => exact ⟨k + 1, by omega, by go_num, hide ((unhide hd).trans (lexc_on _ _ _ _ (by omega) (by omega) (by omega)))⟩
          case measure => simp [intOf]; omega
    · have h0 : Hid (Pl.magW aw.data.toList bw.data.toList = 0) := hide ((unhide hd).trans (lexc_end _ _ _ _ (by omega)))
      clear hd
      go_wp2
      go_loop [14] (fun i => ∃ k : Nat, k ≤ bf.size ∧ i = .int .i64 k ∧ Hid (Pl.magF af.data.toList bf.data.toList = Pl.lexc (Pl.padR af.data.toList) (Pl.padR bf.data.toList) (bf.size - k) k)) (fun i => bf.size - (intOf i).toNat)
      case atStart => exact ⟨0, Nat.zero_le _, rfl, hide (magF_start _ _ _ (by omega))⟩
      case round =>
        obtain ⟨j, hj, rfl, hd⟩ := hrel
        by_cases hlt : j < bf.size
        · by_cases h1 : (Pl.padR af.data.toList j : Int) < (Pl.padR bf.data.toList j : Int)
          · go_wp2_with (go_at_call 36; refine (padRight_any _ _ _).mono ?_; rintro e w' ⟨rfl, rfl⟩)
            go_ret
            exact ⟨ret_int (by rw [mag_of_F _ _ _ _ _ (unhide h0) ((unhide hd).trans (lexc_lt _ _ _ _ (by omega) (by omega)))]), rfl⟩
          · by_cases h2 : (Pl.padR bf.data.toList j : Int) < (Pl.padR af.data.toList j : Int)
            · go_wp2_with (go_at_call 36; refine (padRight_any _ _ _).mono ?_; rintro e w' ⟨rfl, rfl⟩)
              go_ret
              exact ⟨ret_int (by rw [mag_of_F _ _ _ _ _ (unhide h0) ((unhide hd).trans (lexc_gt _ _ _ _ (by omega) (by omega)))]), rfl⟩
            · go_wp2_with (go_at_call 36; refine (padRight_any _ _ _).mono ?_; rintro e w' ⟨rfl, rfl⟩)
              go_round
              case rel => exact ⟨j + 1, by omega, by go_num, hide ((unhide hd).trans (lexc_on _ _ _ _ (by omega) (by omega) (by omega)))⟩
              case measure => simp [intOf]; omega
        · go_wp2
          go_ret
          exact ⟨ret_int (by rw [mag_of_F _ _ _ _ _ (unhide h0) ((unhide hd).trans (lexc_end _ _ _ _ (by omega)))]), rfl⟩

set_option maxHeartbeats 1000000 in
theorem mag_way3 (aw af bw bf : ByteArray) (w : World) (h1 : aw.size ≤ 65536) (h3 : bw.size ≤ 65536) (h2 : af.size ≤ 65536) (h4 : bf.size ≤ 65536) (hN : (aw.size : Int) < (bw.size : Int)) (hM : ¬ (af.size : Int) < (bf.size : Int)) :
    Calls Try.prog 28 #[.string aw, .string af, .string bw, .string bf] w fun e w' => e = .returned (.int .i64 (Pl.mag aw.data.toList af.data.toList bw.data.toList bf.data.toList)) ∧ w' = w := by
  go_enter Try.func28, Try.ntmps28
  go_wp2
  go_loop [10] (fun i => ∃ k : Nat, k ≤ bw.size ∧ i = .int .i64 k ∧ Hid (Pl.magW aw.data.toList bw.data.toList = Pl.lexc (Pl.padL aw.data.toList bw.size) (Pl.padL bw.data.toList bw.size) (bw.size - k) k)) (fun i => bw.size - (intOf i).toNat)
  case atStart => exact ⟨0, Nat.zero_le _, rfl, hide (magW_start _ _ _ (by omega))⟩
  case round =>
    obtain ⟨k, hk, rfl, hd⟩ := hrel
    by_cases hlt : k < bw.size
    · by_cases h1 : (Pl.padL aw.data.toList bw.size k : Int) < (Pl.padL bw.data.toList bw.size k : Int)
      · go_wp2_with (go_at_call 35; refine (padLeft_any _ _ _ _ (by omega) (by omega) (by omega)).mono ?_; rintro e w' ⟨rfl, rfl⟩)
        go_ret
        exact ⟨ret_int (by rw [mag_of_W _ _ _ _ _ (by decide) ((unhide hd).trans (lexc_lt _ _ _ _ (by omega) (by omega)))]), rfl⟩
      · by_cases h2 : (Pl.padL bw.data.toList bw.size k : Int) < (Pl.padL aw.data.toList bw.size k : Int)
        · go_wp2_with (go_at_call 35; refine (padLeft_any _ _ _ _ (by omega) (by omega) (by omega)).mono ?_; rintro e w' ⟨rfl, rfl⟩)
          go_ret
          exact ⟨ret_int (by rw [mag_of_W _ _ _ _ _ (by decide) ((unhide hd).trans (lexc_gt _ _ _ _ (by omega) (by omega)))]), rfl⟩
        · go_wp2_with (go_at_call 35; refine (padLeft_any _ _ _ _ (by omega) (by omega) (by omega)).mono ?_; rintro e w' ⟨rfl, rfl⟩)
          go_round
          case rel => exact ⟨k + 1, by omega, by go_num, hide ((unhide hd).trans (lexc_on _ _ _ _ (by omega) (by omega) (by omega)))⟩
          case measure => simp [intOf]; omega
    · have h0 : Hid (Pl.magW aw.data.toList bw.data.toList = 0) := hide ((unhide hd).trans (lexc_end _ _ _ _ (by omega)))
      clear hd
      go_wp2
      go_loop [14] (fun i => ∃ k : Nat, k ≤ af.size ∧ i = .int .i64 k ∧ Hid (Pl.magF af.data.toList bf.data.toList = Pl.lexc (Pl.padR af.data.toList) (Pl.padR bf.data.toList) (af.size - k) k)) (fun i => af.size - (intOf i).toNat)
      case atStart => exact ⟨0, Nat.zero_le _, rfl, hide (magF_start _ _ _ (by omega))⟩
      case round =>
        obtain ⟨j, hj, rfl, hd⟩ := hrel
        by_cases hlt : j < af.size
        · by_cases h1 : (Pl.padR af.data.toList j : Int) < (Pl.padR bf.data.toList j : Int)
          · go_wp2_with (go_at_call 36; refine (padRight_any _ _ _).mono ?_; rintro e w' ⟨rfl, rfl⟩)
            go_ret
            exact ⟨ret_int (by rw [mag_of_F _ _ _ _ _ (unhide h0) ((unhide hd).trans (lexc_lt _ _ _ _ (by omega) (by omega)))]), rfl⟩
          · by_cases h2 : (Pl.padR bf.data.toList j : Int) < (Pl.padR af.data.toList j : Int)
            · go_wp2_with (go_at_call 36; refine (padRight_any _ _ _).mono ?_; rintro e w' ⟨rfl, rfl⟩)
              go_ret
              exact ⟨ret_int (by rw [mag_of_F _ _ _ _ _ (unhide h0) ((unhide hd).trans (lexc_gt _ _ _ _ (by omega) (by omega)))]), rfl⟩
            · go_wp2_with (go_at_call 36; refine (padRight_any _ _ _).mono ?_; rintro e w' ⟨rfl, rfl⟩)
              go_round
              case rel => exact ⟨j + 1, by omega, by go_num, hide ((unhide hd).trans (lexc_on _ _ _ _ (by omega) (by omega) (by omega)))⟩
              case measure => simp [intOf]; omega
        · go_wp2
          go_ret
          exact ⟨ret_int (by rw [mag_of_F _ _ _ _ _ (unhide h0) ((unhide hd).trans (lexc_end _ _ _ _ (by omega)))]), rfl⟩

set_option maxHeartbeats 1000000 in
theorem mag_way4 (aw af bw bf : ByteArray) (w : World) (h1 : aw.size ≤ 65536) (h3 : bw.size ≤ 65536) (h2 : af.size ≤ 65536) (h4 : bf.size ≤ 65536) (hN : (aw.size : Int) < (bw.size : Int)) (hM : (af.size : Int) < (bf.size : Int)) :
    Calls Try.prog 28 #[.string aw, .string af, .string bw, .string bf] w fun e w' => e = .returned (.int .i64 (Pl.mag aw.data.toList af.data.toList bw.data.toList bf.data.toList)) ∧ w' = w := by
  go_enter Try.func28, Try.ntmps28
  go_wp2
  go_loop [10] (fun i => ∃ k : Nat, k ≤ bw.size ∧ i = .int .i64 k ∧ Hid (Pl.magW aw.data.toList bw.data.toList = Pl.lexc (Pl.padL aw.data.toList bw.size) (Pl.padL bw.data.toList bw.size) (bw.size - k) k)) (fun i => bw.size - (intOf i).toNat)
  case atStart => exact ⟨0, Nat.zero_le _, rfl, hide (magW_start _ _ _ (by omega))⟩
  case round =>
    obtain ⟨k, hk, rfl, hd⟩ := hrel
    by_cases hlt : k < bw.size
    · by_cases h1 : (Pl.padL aw.data.toList bw.size k : Int) < (Pl.padL bw.data.toList bw.size k : Int)
      · go_wp2_with (go_at_call 35; refine (padLeft_any _ _ _ _ (by omega) (by omega) (by omega)).mono ?_; rintro e w' ⟨rfl, rfl⟩)
        go_ret
        exact ⟨ret_int (by rw [mag_of_W _ _ _ _ _ (by decide) ((unhide hd).trans (lexc_lt _ _ _ _ (by omega) (by omega)))]), rfl⟩
      · by_cases h2 : (Pl.padL bw.data.toList bw.size k : Int) < (Pl.padL aw.data.toList bw.size k : Int)
        · go_wp2_with (go_at_call 35; refine (padLeft_any _ _ _ _ (by omega) (by omega) (by omega)).mono ?_; rintro e w' ⟨rfl, rfl⟩)
          go_ret
          exact ⟨ret_int (by rw [mag_of_W _ _ _ _ _ (by decide) ((unhide hd).trans (lexc_gt _ _ _ _ (by omega) (by omega)))]), rfl⟩
        · go_wp2_with (go_at_call 35; refine (padLeft_any _ _ _ _ (by omega) (by omega) (by omega)).mono ?_; rintro e w' ⟨rfl, rfl⟩)
          go_round
          case rel => exact ⟨k + 1, by omega, by go_num, hide ((unhide hd).trans (lexc_on _ _ _ _ (by omega) (by omega) (by omega)))⟩
          case measure => simp [intOf]; omega
    · have h0 : Hid (Pl.magW aw.data.toList bw.data.toList = 0) := hide ((unhide hd).trans (lexc_end _ _ _ _ (by omega)))
      clear hd
      go_wp2
      go_loop [14] (fun i => ∃ k : Nat, k ≤ bf.size ∧ i = .int .i64 k ∧ Hid (Pl.magF af.data.toList bf.data.toList = Pl.lexc (Pl.padR af.data.toList) (Pl.padR bf.data.toList) (bf.size - k) k)) (fun i => bf.size - (intOf i).toNat)
      case atStart => exact ⟨0, Nat.zero_le _, rfl, hide (magF_start _ _ _ (by omega))⟩
      case round =>
        obtain ⟨j, hj, rfl, hd⟩ := hrel
        by_cases hlt : j < bf.size
        · by_cases h1 : (Pl.padR af.data.toList j : Int) < (Pl.padR bf.data.toList j : Int)
          · go_wp2_with (go_at_call 36; refine (padRight_any _ _ _).mono ?_; rintro e w' ⟨rfl, rfl⟩)
            go_ret
            exact ⟨ret_int (by rw [mag_of_F _ _ _ _ _ (unhide h0) ((unhide hd).trans (lexc_lt _ _ _ _ (by omega) (by omega)))]), rfl⟩
          · by_cases h2 : (Pl.padR bf.data.toList j : Int) < (Pl.padR af.data.toList j : Int)
            · go_wp2_with (go_at_call 36; refine (padRight_any _ _ _).mono ?_; rintro e w' ⟨rfl, rfl⟩)
              go_ret
              exact ⟨ret_int (by rw [mag_of_F _ _ _ _ _ (unhide h0) ((unhide hd).trans (lexc_gt _ _ _ _ (by omega) (by omega)))]), rfl⟩
            · go_wp2_with (go_at_call 36; refine (padRight_any _ _ _).mono ?_; rintro e w' ⟨rfl, rfl⟩)
              go_round
              case rel => exact ⟨j + 1, by omega, by go_num, hide ((unhide hd).trans (lexc_on _ _ _ _ (by omega) (by omega) (by omega)))⟩
              case measure => simp [intOf]; omega
        · go_wp2
          go_ret
          exact ⟨ret_int (by rw [mag_of_F _ _ _ _ _ (unhide h0) ((unhide hd).trans (lexc_end _ _ _ _ (by omega)))]), rfl⟩

theorem mag_any (aw af bw bf : ByteArray) (w : World) (h1 : aw.size ≤ 65536) (h2 : af.size ≤ 65536) (h3 : bw.size ≤ 65536) (h4 : bf.size ≤ 65536) :
    Calls Try.prog 28 #[.string aw, .string af, .string bw, .string bf] w fun e w' => e = .returned (.int .i64 (Pl.mag aw.data.toList af.data.toList bw.data.toList bf.data.toList)) ∧ w' = w := by
  by_cases hN : (aw.size : Int) < (bw.size : Int) <;> by_cases hM : (af.size : Int) < (bf.size : Int)
  · exact mag_way4 aw af bw bf w h1 h3 h2 h4 hN hM
  · exact mag_way3 aw af bw bf w h1 h3 h2 h4 hN hM
  · exact mag_way2 aw af bw bf w h1 h3 h2 h4 hN hM
  · exact mag_way1 aw af bw bf w h1 h3 h2 h4 hN hM

end Go.Proofs.Qxb6614662a
