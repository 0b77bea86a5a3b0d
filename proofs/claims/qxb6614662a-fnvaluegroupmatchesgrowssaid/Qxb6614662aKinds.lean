import Derived.Test.Qxb6614662aLeaf
import Derived.Test.Qxb6614662aPlainB
namespace Go.Proofs.Qxb6614662a
open Go.RowKit
set_option linter.unusedVariables false

set_option maxHeartbeats 400000 in
theorem lowerByte_any (c : Nat) (w : World) (hc : c < 256) :
    Calls Try.prog 29 #[.int .u8 c] w fun e w' => e = .returned (.int .u8 (Pl.low c)) ∧ w' = w := by
  by_cases h1 : (65 : Int) ≤ (c : Int)
  · by_cases h2 : (c : Int) ≤ 90
    · have hb : Hid ((Pl.low c : Int) = (c : Int) + 97 - 65) := hide (by unfold Pl.low; rw [if_pos (by omega)]; omega)
      go_enter Try.func29, Try.ntmps29
      go_wp2
      go_ret
      exact ⟨ret_int (by rw [unhide hb]), rfl⟩
    · have hb : Hid (Pl.low c = c) := hide (by unfold Pl.low; rw [if_neg (by omega)])
      go_enter Try.func29, Try.ntmps29
      go_wp2
      go_ret
      exact ⟨ret_int (by rw [unhide hb]), rfl⟩
  · have hb : Hid (Pl.low c = c) := hide (by unfold Pl.low; rw [if_neg (by omega)])
    go_enter Try.func29, Try.ntmps29
    go_wp2
    go_ret
    exact ⟨ret_int (by rw [unhide hb]), rfl⟩

set_option maxHeartbeats 400000 in
theorem lowerASCII_any (c : Nat) (w : World) (hc : c < 256) :
    Calls Try.prog 47 #[.int .u8 c] w fun e w' => e = .returned (.int .u8 (Pl.low c)) ∧ w' = w := by
  by_cases h1 : (65 : Int) ≤ (c : Int)
  · by_cases h2 : (c : Int) ≤ 90
    · have hb : Hid ((Pl.low c : Int) = (c : Int) + 97 - 65) := hide (by unfold Pl.low; rw [if_pos (by omega)]; omega)
      go_enter Try.func47, Try.ntmps47
      go_wp2
      go_ret
      exact ⟨ret_int (by rw [unhide hb]), rfl⟩
    · have hb : Hid (Pl.low c = c) := hide (by unfold Pl.low; rw [if_neg (by omega)])
      go_enter Try.func47, Try.ntmps47
      go_wp2
      go_ret
      exact ⟨ret_int (by rw [unhide hb]), rfl⟩
  · have hb : Hid (Pl.low c = c) := hide (by unfold Pl.low; rw [if_neg (by omega)])
    go_enter Try.func47, Try.ntmps47
    go_wp2
    go_ret
    exact ⟨ret_int (by rw [unhide hb]), rfl⟩


theorem low_lt (c : UInt8) : Pl.low c.toNat < 256 := by
  have := c.toNat_lt
  unfold Pl.low; split <;> omega
theorem byte_lt (c : UInt8) : c.toNat < 256 := c.toNat_lt

theorem kc_lt (k : Int) (a b : ByteArray) (i : Nat) (ha : i < a.size) (hb : i < b.size) (h : (Pl.kb k a[i].toNat : Int) < (Pl.kb k b[i].toNat : Int)) : Pl.kcmp k (a.data.toList.drop i) (b.data.toList.drop i) = -1 := by
  rw [drop_at a i ha, drop_at b i hb]
  unfold Pl.kcmp
  rw [if_pos (by omega)]
theorem kc_gt (k : Int) (a b : ByteArray) (i : Nat) (ha : i < a.size) (hb : i < b.size) (h : (Pl.kb k b[i].toNat : Int) < (Pl.kb k a[i].toNat : Int)) : Pl.kcmp k (a.data.toList.drop i) (b.data.toList.drop i) = 1 := by
  rw [drop_at a i ha, drop_at b i hb]
  unfold Pl.kcmp
  rw [if_neg (by omega), if_pos (by omega)]
theorem kc_on (k : Int) (a b : ByteArray) (i : Nat) (ha : i < a.size) (hb : i < b.size) (h : ¬ (Pl.kb k a[i].toNat : Int) < (Pl.kb k b[i].toNat : Int)) (h' : ¬ (Pl.kb k b[i].toNat : Int) < (Pl.kb k a[i].toNat : Int)) :
    Pl.kcmp k (a.data.toList.drop i) (b.data.toList.drop i) = Pl.kcmp k (a.data.toList.drop (i + 1)) (b.data.toList.drop (i + 1)) := by
  rw [drop_at a i ha, drop_at b i hb]
  conv => lhs; unfold Pl.kcmp
  rw [if_neg (by omega), if_neg (by omega)]
theorem drop_all (a : ByteArray) (i : Nat) (h : a.size ≤ i) : a.data.toList.drop i = [] := List.drop_eq_nil_of_le (by rw [size_len]; exact h)
theorem kc_short (k : Int) (a b : ByteArray) (i : Nat) (ha : a.size ≤ i) (hb : i < b.size) : Pl.kcmp k (a.data.toList.drop i) (b.data.toList.drop i) = -1 := by
  rw [drop_all a i ha, drop_at b i hb]; rfl
theorem kc_long (k : Int) (a b : ByteArray) (i : Nat) (ha : i < a.size) (hb : b.size ≤ i) : Pl.kcmp k (a.data.toList.drop i) (b.data.toList.drop i) = 1 := by
  rw [drop_at a i ha, drop_all b i hb]; rfl
theorem kc_both (k : Int) (a b : ByteArray) (i : Nat) (ha : a.size ≤ i) (hb : b.size ≤ i) : Pl.kcmp k (a.data.toList.drop i) (b.data.toList.drop i) = 0 := by
  rw [drop_all a i ha, drop_all b i hb]; rfl
theorem kb_low (k : Int) (h : (k == 0) = true) (c : Nat) : Pl.kb k c = Pl.low c := by unfold Pl.kb; rw [if_pos (by simpa using h)]
theorem kb_raw (k : Int) (h : (k == 0) = false) (c : Nat) : Pl.kb k c = c := by unfold Pl.kb; rw [if_neg (by simpa using h)]

set_option maxHeartbeats 1000000 in
theorem kindCmp_0a (k : Int) (a b : ByteArray) (w : World) (hk : (k == 0) = true) (ha : a.size ≤ maxLen) (hb : b.size ≤ maxLen) (hN : ¬ (b.size : Int) < (a.size : Int)) :
    Calls Try.prog 24 #[.int .u8 k, .string a, .string b] w fun e w' => e = .returned (.int .i64 (Pl.kcmp k a.data.toList b.data.toList)) ∧ w' = w := by
  unfold maxLen at *
  go_enter Try.func24, Try.ntmps24
  go_wp2
  go_loop [8] (fun i => ∃ m : Nat, m ≤ a.size ∧ i = .int .i64 m ∧ Hid (Pl.kcmp k a.data.toList b.data.toList = Pl.kcmp k (a.data.toList.drop m) (b.data.toList.drop m))) (fun i => a.size - (intOf i).toNat)
  case atStart => exact ⟨0, Nat.zero_le _, rfl, hide rfl⟩
  case round =>
    obtain ⟨i, hi, rfl, hd⟩ := hrel
    by_cases hlt : i < a.size
    · have hia : i < a.size := by omega
      have hib : i < b.size := by omega
      by_cases h1 : (Pl.low a[i].toNat : Int) < (Pl.low b[i].toNat : Int)
      · go_wp2_with (go_at_call 29; refine (lowerByte_any _ _ (byte_lt _)).mono ?_; rintro e w' ⟨rfl, rfl⟩)
        go_ret
        exact ⟨ret_int (by rw [unhide hd, kc_lt k a b i hia hib (by rw [kb_low k hk, kb_low k hk]; exact h1)]), rfl⟩
      · by_cases h2 : (Pl.low b[i].toNat : Int) < (Pl.low a[i].toNat : Int)
        · go_wp2_with (go_at_call 29; refine (lowerByte_any _ _ (byte_lt _)).mono ?_; rintro e w' ⟨rfl, rfl⟩)
          go_ret
          exact ⟨ret_int (by rw [unhide hd, kc_gt k a b i hia hib (by rw [kb_low k hk, kb_low k hk]; exact h2)]), rfl⟩
        · go_wp2_with (go_at_call 29; refine (lowerByte_any _ _ (byte_lt _)).mono ?_; rintro e w' ⟨rfl, rfl⟩)
          go_round
          case rel => exact ⟨i + 1, by omega, by go_num, hide (by rw [unhide hd, kc_on k a b i hia hib (by rw [kb_low k hk, kb_low k hk]; omega) (by rw [kb_low k hk, kb_low k hk]; omega)])⟩
          case measure => simp [intOf]; omega
    · by_cases hs : (a.size : Int) < (b.size : Int)
      · go_wp2
        go_ret
        exact ⟨ret_int (by rw [unhide hd, kc_short k a b i (by omega) (by omega)]), rfl⟩
      · go_wp2
        go_ret
        exact ⟨ret_int (by rw [unhide hd, kc_both k a b i (by omega) (by omega)]), rfl⟩

set_option maxHeartbeats 1000000 in
theorem kindCmp_0b (k : Int) (a b : ByteArray) (w : World) (hk : (k == 0) = true) (ha : a.size ≤ maxLen) (hb : b.size ≤ maxLen) (hN : (b.size : Int) < (a.size : Int)) :
    Calls Try.prog 24 #[.int .u8 k, .string a, .string b] w fun e w' => e = .returned (.int .i64 (Pl.kcmp k a.data.toList b.data.toList)) ∧ w' = w := by
  unfold maxLen at *
  go_enter Try.func24, Try.ntmps24
  go_wp2
  go_loop [8] (fun i => ∃ m : Nat, m ≤ b.size ∧ i = .int .i64 m ∧ Hid (Pl.kcmp k a.data.toList b.data.toList = Pl.kcmp k (a.data.toList.drop m) (b.data.toList.drop m))) (fun i => b.size - (intOf i).toNat)
  case atStart => exact ⟨0, Nat.zero_le _, rfl, hide rfl⟩
  case round =>
    obtain ⟨i, hi, rfl, hd⟩ := hrel
    by_cases hlt : i < b.size
    · have hia : i < a.size := by omega
      have hib : i < b.size := by omega
      by_cases h1 : (Pl.low a[i].toNat : Int) < (Pl.low b[i].toNat : Int)
      · go_wp2_with (go_at_call 29; refine (lowerByte_any _ _ (byte_lt _)).mono ?_; rintro e w' ⟨rfl, rfl⟩)
        go_ret
        exact ⟨ret_int (by rw [unhide hd, kc_lt k a b i hia hib (by rw [kb_low k hk, kb_low k hk]; exact h1)]), rfl⟩
      · by_cases h2 : (Pl.low b[i].toNat : Int) < (Pl.low a[i].toNat : Int)
        · go_wp2_with (go_at_call 29; refine (lowerByte_any _ _ (byte_lt _)).mono ?_; rintro e w' ⟨rfl, rfl⟩)
          go_ret
          exact ⟨ret_int (by rw [unhide hd, kc_gt k a b i hia hib (by rw [kb_low k hk, kb_low k hk]; exact h2)]), rfl⟩
        · go_wp2_with (go_at_call 29; refine (lowerByte_any _ _ (byte_lt _)).mono ?_; rintro e w' ⟨rfl, rfl⟩)
          go_round
          case rel => exact ⟨i + 1, by omega, by go_num, hide (by rw [unhide hd, kc_on k a b i hia hib (by rw [kb_low k hk, kb_low k hk]; omega) (by rw [kb_low k hk, kb_low k hk]; omega)])⟩
          case measure => simp [intOf]; omega
    · go_wp2
      go_ret
      exact ⟨ret_int (by rw [unhide hd, kc_long k a b i (by omega) (by omega)]), rfl⟩

set_option maxHeartbeats 1000000 in
theorem kindCmp_1a (k : Int) (a b : ByteArray) (w : World) (hk : (k == 0) = false) (ha : a.size ≤ maxLen) (hb : b.size ≤ maxLen) (hN : ¬ (b.size : Int) < (a.size : Int)) :
    Calls Try.prog 24 #[.int .u8 k, .string a, .string b] w fun e w' => e = .returned (.int .i64 (Pl.kcmp k a.data.toList b.data.toList)) ∧ w' = w := by
  unfold maxLen at *
  go_enter Try.func24, Try.ntmps24
  go_wp2
  go_loop [8] (fun i => ∃ m : Nat, m ≤ a.size ∧ i = .int .i64 m ∧ Hid (Pl.kcmp k a.data.toList b.data.toList = Pl.kcmp k (a.data.toList.drop m) (b.data.toList.drop m))) (fun i => a.size - (intOf i).toNat)
  case atStart => exact ⟨0, Nat.zero_le _, rfl, hide rfl⟩
  case round =>
    obtain ⟨i, hi, rfl, hd⟩ := hrel
    by_cases hlt : i < a.size
    · have hia : i < a.size := by omega
      have hib : i < b.size := by omega
      by_cases h1 : (a[i].toNat : Int) < (b[i].toNat : Int)
      · go_wp2
        go_ret
        exact ⟨ret_int (by rw [unhide hd, kc_lt k a b i hia hib (by rw [kb_raw k hk, kb_raw k hk]; exact h1)]), rfl⟩
      · by_cases h2 : (b[i].toNat : Int) < (a[i].toNat : Int)
        · go_wp2
          go_ret
          exact ⟨ret_int (by rw [unhide hd, kc_gt k a b i hia hib (by rw [kb_raw k hk, kb_raw k hk]; exact h2)]), rfl⟩
        · go_wp2
          go_round
          case rel => exact ⟨i + 1, by omega, by go_num, hide (by rw [unhide hd, kc_on k a b i hia hib (by rw [kb_raw k hk, kb_raw k hk]; omega) (by rw [kb_raw k hk, kb_raw k hk]; omega)])⟩
          case measure => simp [intOf]; omega
    · by_cases hs : (a.size : Int) < (b.size : Int)
      · go_wp2
        go_ret
        exact ⟨ret_int (by rw [unhide hd, kc_short k a b i (by omega) (by omega)]), rfl⟩
      · go_wp2
        go_ret
        exact ⟨ret_int (by rw [unhide hd, kc_both k a b i (by omega) (by omega)]), rfl⟩

set_option maxHeartbeats 1000000 in
theorem kindCmp_1b (k : Int) (a b : ByteArray) (w : World) (hk : (k == 0) = false) (ha : a.size ≤ maxLen) (hb : b.size ≤ maxLen) (hN : (b.size : Int) < (a.size : Int)) :
    Calls Try.prog 24 #[.int .u8 k, .string a, .string b] w fun e w' => e = .returned (.int .i64 (Pl.kcmp k a.data.toList b.data.toList)) ∧ w' = w := by
  unfold maxLen at *
  go_enter Try.func24, Try.ntmps24
  go_wp2
  go_loop [8] (fun i => ∃ m : Nat, m ≤ b.size ∧ i = .int .i64 m ∧ Hid (Pl.kcmp k a.data.toList b.data.toList = Pl.kcmp k (a.data.toList.drop m) (b.data.toList.drop m))) (fun i => b.size - (intOf i).toNat)
  case atStart => exact ⟨0, Nat.zero_le _, rfl, hide rfl⟩
  case round =>
    obtain ⟨i, hi, rfl, hd⟩ := hrel
    by_cases hlt : i < b.size
    · have hia : i < a.size := by omega
      have hib : i < b.size := by omega
      by_cases h1 : (a[i].toNat : Int) < (b[i].toNat : Int)
      · go_wp2
        go_ret
        exact ⟨ret_int (by rw [unhide hd, kc_lt k a b i hia hib (by rw [kb_raw k hk, kb_raw k hk]; exact h1)]), rfl⟩
      · by_cases h2 : (b[i].toNat : Int) < (a[i].toNat : Int)
        · go_wp2
          go_ret
          exact ⟨ret_int (by rw [unhide hd, kc_gt k a b i hia hib (by rw [kb_raw k hk, kb_raw k hk]; exact h2)]), rfl⟩
        · go_wp2
          go_round
          case rel => exact ⟨i + 1, by omega, by go_num, hide (by rw [unhide hd, kc_on k a b i hia hib (by rw [kb_raw k hk, kb_raw k hk]; omega) (by rw [kb_raw k hk, kb_raw k hk]; omega)])⟩
          case measure => simp [intOf]; omega
    · go_wp2
      go_ret
      exact ⟨ret_int (by rw [unhide hd, kc_long k a b i (by omega) (by omega)]), rfl⟩

/-- kindCompare. -/
theorem kindCmp_any (k : Int) (a b : ByteArray) (w : World) (ha : a.size ≤ maxLen) (hb : b.size ≤ maxLen) :
    Calls Try.prog 24 #[.int .u8 k, .string a, .string b] w fun e w' => e = .returned (.int .i64 (Pl.kcmp k a.data.toList b.data.toList)) ∧ w' = w := by
  by_cases hN : (b.size : Int) < (a.size : Int) <;> cases hk : (k == 0)
  · exact kindCmp_1b k a b w hk ha hb hN
  · exact kindCmp_0b k a b w hk ha hb hN
  · exact kindCmp_1a k a b w hk ha hb hN
  · exact kindCmp_0a k a b w hk ha hb hN

end Go.Proofs.Qxb6614662a
