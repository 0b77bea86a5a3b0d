import Derived.Test.Qxb6614662aKinds
import Derived.Deep.QuietTactic
import Derived.BigQuiet
namespace Go.Proofs.Qxb6614662a
open Go.RowKit
set_option linter.unusedVariables false

theorem drawn_more {w wr : World} (h : Hid (∃ q, wr = w.drewN q)) (n : Nat) : ∃ q, wr.drewN n = w.drewN q := by
  obtain ⟨q, rfl⟩ := h
  exact ⟨q + n, World.drewN_drewN _ _ _⟩

set_option maxHeartbeats 1000000 in
theorem cmpByte_any (x y : Nat) (w : World) (hx : x < 256) (hy : y < 256) :
    Calls Try.prog 48 #[.int .u8 x, .int .u8 y] w fun e w' => e = .returned (.int .i64 (Lib.compareInt x y)) ∧ w' = w := by
  go_enter Try.func48, Try.ntmps48
  go_wp2
  all_goals (go_ret; refine ⟨?_, rfl⟩; unfold Lib.compareInt; (repeat' split) <;> first | rfl | (exfalso; omega))

set_option maxHeartbeats 1000000 in
theorem compare_1 (k : Int) (a b : ByteArray) (w : World) (hk : (k == 0) = false) :
    Calls Try.prog 39 #[.int .u8 k, .string a, .string b] w fun e w' => e = .returned (.int .i64 (Pl.kcmp k a.data.toList b.data.toList)) ∧ ∃ n, w' = w.drewN n := by
  have hk' : (k != 0) = true := by simpa using hk
  have he := hide (Pl.kcmp_other k (by simpa using hk) a.data.toList b.data.toList)
  clear hk
  go_enter Try.func39, Try.ntmps39
  go_wp2_with (go_at_call 34; refine (strCompare_any _ _ _).mono ?_; rintro e w' ⟨rfl, rfl⟩)
  go_ret
  exact ⟨ret_int (by rw [unhide he]), 0, rfl⟩

set_option maxHeartbeats 1000000 in
theorem compare_0 (k : Int) (a b : ByteArray) (w : World) (hk : (k == 0) = true) (ha : a.size ≤ maxLen) (hb : b.size ≤ maxLen) :
    Calls Try.prog 39 #[.int .u8 k, .string a, .string b] w fun e w' => e = .returned (.int .i64 (Pl.kcmp k a.data.toList b.data.toList)) ∧ ∃ n, w' = w.drewN n := by
  have hk' : (k != 0) = false := by simpa using hk
  have HK := hide hk
  clear hk
  unfold maxLen at *
  go_enter Try.func39, Try.ntmps39
  go_wp2
  go_loopw [20] (fun i wr => ∃ m : Nat, m ≤ a.size ∧ m ≤ b.size ∧ i = .int .i64 m ∧ Hid (∃ q, wr = w.drewN q) ∧ Hid (Pl.kcmp k a.data.toList b.data.toList = Pl.kcmp k (a.data.toList.drop m) (b.data.toList.drop m))) (fun i _ => a.size - (intOf i).toNat)
  case atStart => exact ⟨0, Nat.zero_le _, Nat.zero_le _, rfl, ⟨0, rfl⟩, hide rfl⟩
  case round =>
    obtain ⟨i, hia', hib', rfl, hq, hd⟩ := hrel
    by_cases hlt : (i : Int) < min (a.size : Int) (b.size : Int)
    · have hia : i < a.size := by omega
      have hib : i < b.size := by omega
      have hia2 : (i : Int) < (a.size : Int) := by omega
      have hib2 : (i : Int) < (b.size : Int) := by omega
      by_cases h1 : (Pl.low a[i].toNat : Int) < (Pl.low b[i].toNat : Int)
      · have hne : ((Pl.low a[i].toNat : Int) != (Pl.low b[i].toNat : Int)) = true := by rw [bne_iff_ne]; omega
        have hc : Hid (Lib.compareInt (Pl.low a[i].toNat) (Pl.low b[i].toNat) = -1) := hide (by unfold Lib.compareInt; rw [if_pos h1])
        go_wp2
        go_quiet ((go_at_call 47; exact Calls.quiet_of_same (lowerASCII_any _ _ (byte_lt _))))
        go_wp2_with (go_at_call 48; refine (cmpByte_any _ _ _ (low_lt _) (low_lt _)).mono ?_; rintro e w' ⟨rfl, rfl⟩)
        go_ret
        exact ⟨ret_int (by rw [unhide hd, unhide hc, kc_lt k a b i hia hib (by rw [kb_low k HK, kb_low k HK]; exact h1)]), drawn_more hq _⟩
      · by_cases h2 : (Pl.low b[i].toNat : Int) < (Pl.low a[i].toNat : Int)
        · have hne : ((Pl.low a[i].toNat : Int) != (Pl.low b[i].toNat : Int)) = true := by rw [bne_iff_ne]; omega
          have hc : Hid (Lib.compareInt (Pl.low a[i].toNat) (Pl.low b[i].toNat) = 1) := hide (by unfold Lib.compareInt; rw [if_neg (by omega), if_pos (by omega)])
          go_wp2
          go_quiet ((go_at_call 47; exact Calls.quiet_of_same (lowerASCII_any _ _ (byte_lt _))))
          go_wp2_with (go_at_call 48; refine (cmpByte_any _ _ _ (low_lt _) (low_lt _)).mono ?_; rintro e w' ⟨rfl, rfl⟩)
          go_ret
          exact ⟨ret_int (by rw [unhide hd, unhide hc, kc_gt k a b i hia hib (by rw [kb_low k HK, kb_low k HK]; exact h2)]), drawn_more hq _⟩
        · have hne : ((Pl.low a[i].toNat : Int) != (Pl.low b[i].toNat : Int)) = false := by rw [bne_eq_false_iff_eq]; omega
          go_wp2
          go_quiet ((go_at_call 47; exact Calls.quiet_of_same (lowerASCII_any _ _ (byte_lt _))))
          go_wp2
          go_roundw
          case rel => exact ⟨i + 1, by omega, by omega, by go_num, drawn_more hq _, hide (by rw [unhide hd, kc_on k a b i hia hib (by rw [kb_low k HK, kb_low k HK]; omega) (by rw [kb_low k HK, kb_low k HK]; omega)])⟩
          case measure => simp [intOf]; omega
    · by_cases h1 : (a.size : Int) < (b.size : Int)
      · have hc : Hid (Lib.compareInt a.size b.size = -1) := hide (by unfold Lib.compareInt; rw [if_pos h1])
        go_wp2_with (go_at_call 33; refine (cmpInt_any _ _ _).mono ?_; rintro e w' ⟨rfl, rfl⟩)
        go_ret
        exact ⟨ret_int (by rw [unhide hd, unhide hc, kc_short k a b i (by omega) (by omega)]), hq⟩
      · by_cases h2 : (b.size : Int) < (a.size : Int)
        · have hc : Hid (Lib.compareInt a.size b.size = 1) := hide (by unfold Lib.compareInt; rw [if_neg (by omega), if_pos (by omega)])
          go_wp2_with (go_at_call 33; refine (cmpInt_any _ _ _).mono ?_; rintro e w' ⟨rfl, rfl⟩)
          go_ret
          exact ⟨ret_int (by rw [unhide hd, unhide hc, kc_long k a b i (by omega) (by omega)]), hq⟩
        · have hc : Hid (Lib.compareInt a.size b.size = 0) := hide (by unfold Lib.compareInt; rw [if_neg (by omega), if_neg (by omega)])
          go_wp2_with (go_at_call 33; refine (cmpInt_any _ _ _).mono ?_; rintro e w' ⟨rfl, rfl⟩)
          go_ret
          exact ⟨ret_int (by rw [unhide hd, unhide hc, kc_both k a b i (by omega) (by omega)]), hq⟩

/-- (valueKind).compare. -/
theorem compare_any (k : Int) (a b : ByteArray) (w : World) (ha : a.size ≤ maxLen) (hb : b.size ≤ maxLen) :
    Calls Try.prog 39 #[.int .u8 k, .string a, .string b] w fun e w' => e = .returned (.int .i64 (Pl.kcmp k a.data.toList b.data.toList)) ∧ ∃ n, w' = w.drewN n := by
  cases hk : (k == 0)
  · exact compare_1 k a b w hk
  · exact compare_0 k a b w hk ha hb

/-! ### equalFold, equal -/
theorem kc_zero_low (k : Int) (a b : ByteArray) (i : Nat) (hk : (k == 0) = true) (ha : i < a.size) (hb : i < b.size) (h : ((Pl.low a[i].toNat : Int) != (Pl.low b[i].toNat : Int)) = true) : (Pl.kcmp k (a.data.toList.drop i) (b.data.toList.drop i) == 0) = false := by
  rw [bne_iff_ne] at h
  by_cases h1 : (Pl.low a[i].toNat : Int) < (Pl.low b[i].toNat : Int)
  · rw [kc_lt k a b i ha hb (by rw [kb_low k hk, kb_low k hk]; exact h1)]; rfl
  · rw [kc_gt k a b i ha hb (by rw [kb_low k hk, kb_low k hk]; omega)]; rfl
theorem kc_same_low (k : Int) (a b : ByteArray) (i : Nat) (hk : (k == 0) = true) (ha : i < a.size) (hb : i < b.size) (h : ((Pl.low a[i].toNat : Int) != (Pl.low b[i].toNat : Int)) = false) :
    Pl.kcmp k (a.data.toList.drop i) (b.data.toList.drop i) = Pl.kcmp k (a.data.toList.drop (i + 1)) (b.data.toList.drop (i + 1)) := by
  rw [bne_eq_false_iff_eq] at h
  exact kc_on k a b i ha hb (by rw [kb_low k hk, kb_low k hk]; omega) (by rw [kb_low k hk, kb_low k hk]; omega)
theorem kc_same_raw (k : Int) (a b : ByteArray) (i : Nat) (hk : (k == 0) = true) (ha : i < a.size) (hb : i < b.size) (h : ((a[i].toNat : Int) != (b[i].toNat : Int)) = false) :
    Pl.kcmp k (a.data.toList.drop i) (b.data.toList.drop i) = Pl.kcmp k (a.data.toList.drop (i + 1)) (b.data.toList.drop (i + 1)) := by
  refine kc_same_low k a b i hk ha hb ?_
  rw [bne_eq_false_iff_eq] at h ⊢
  rw [show a[i].toNat = b[i].toNat by omega]

set_option maxHeartbeats 1000000 in
theorem equalFold_any (k : Int) (a b : ByteArray) (w : World) (hk : (k == 0) = true) (ha : a.size ≤ maxLen) (hab : a.size = b.size) :
    Calls Try.prog 41 #[.string a, .string b] w fun e w' => e = .returned (.bool (Pl.kcmp k a.data.toList b.data.toList == 0)) ∧ ∃ n, w' = w.drewN n := by
  have HK := hide hk
  have HAB := hide hab
  clear hk hab
  unfold maxLen at *
  go_enter Try.func41, Try.ntmps41
  go_wp2
  go_loopw [8] (fun i wr => ∃ m : Nat, m ≤ a.size ∧ i = .int .i64 m ∧ Hid (∃ q, wr = w.drewN q) ∧ Hid (Pl.kcmp k a.data.toList b.data.toList = Pl.kcmp k (a.data.toList.drop m) (b.data.toList.drop m))) (fun i _ => a.size - (intOf i).toNat)
  case atStart => exact ⟨0, Nat.zero_le _, rfl, ⟨0, rfl⟩, hide rfl⟩
  case round =>
    obtain ⟨i, hia', rfl, hq, hd⟩ := hrel
    by_cases hia : i < a.size
    · have hib : i < b.size := by rw [← unhide HAB]; exact hia
      have hia2 : (i : Int) < (a.size : Int) := by omega
      have hib2 : (i : Int) < (b.size : Int) := by omega
      cases h1 : ((a[i].toNat : Int) != (b[i].toNat : Int))
      · have hc := hide (kc_same_raw k a b i HK hia hib h1)
        go_wp2
        go_quiet ((go_at_call 47; exact Calls.quiet_of_same (lowerASCII_any _ _ (byte_lt _))))
        go_wp2
        go_roundw
        case rel => exact ⟨i + 1, by omega, by go_num, drawn_more hq _, hide (by rw [unhide hd, unhide hc])⟩
        case measure => simp [intOf]; omega
      · cases h2 : ((Pl.low a[i].toNat : Int) != (Pl.low b[i].toNat : Int))
        · have hc := hide (kc_same_low k a b i HK hia hib h2)
          go_wp2
          go_quiet ((go_at_call 47; exact Calls.quiet_of_same (lowerASCII_any _ _ (byte_lt _))))
          go_wp2
          go_roundw
          case rel => exact ⟨i + 1, by omega, by go_num, drawn_more hq _, hide (by rw [unhide hd, unhide hc])⟩
          case measure => simp [intOf]; omega
        · have hc := hide (kc_zero_low k a b i HK hia hib h2)
          go_wp2
          go_quiet ((go_at_call 47; exact Calls.quiet_of_same (lowerASCII_any _ _ (byte_lt _))))
          go_wp2
          go_ret
          exact ⟨ret_bool (by rw [unhide hd, unhide hc]), drawn_more hq _⟩
    · go_wp2
      go_ret
      exact ⟨ret_bool (by rw [unhide hd, kc_both k a b i (by omega) (by rw [← unhide HAB]; omega)]; rfl), hq⟩

end Go.Proofs.Qxb6614662a
