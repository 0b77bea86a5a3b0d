import Derived.Test.Qxb6614662aProg
import Derived.Test.Qxb6614662aPlain
import Derived.WalkKit
import Derived.WalkSpells
import Derived.LoopTactic
import Derived.Lib.Strings
import Derived.Lib.Slices
import Derived.Lib.Small
import Derived.Lib.Walk
import Derived.Lib.Bytealg
namespace Go.Proofs.Qxb6614662a
open Go.RowKit

theorem hide {p : Prop} (h : p) : Hid p := h
theorem unhide {p : Prop} (h : Hid p) : p := h
theorem ret_int {k : IntKind} {a b : Int} (h : a = b) : Ending.returned (.int k a) = .returned (.int k b) := by rw [h]
theorem ret_bool {a b : Bool} (h : a = b) : Ending.returned (.bool a) = .returned (.bool b) := by rw [h]

set_option maxHeartbeats 1000000 in
theorem cmpInt_any (x y : Int) (w : World) :
    Calls Try.prog 33 #[.int .i64 x, .int .i64 y] w fun e w' => e = .returned (.int .i64 (Lib.compareInt x y)) ∧ w' = w := by
  go_enter Try.func33, Try.ntmps33
  go_wp2
  all_goals (go_ret; refine ⟨?_, rfl⟩; unfold Lib.compareInt; (repeat' split) <;> first | rfl | (exfalso; omega))

set_option maxHeartbeats 1000000 in
set_option maxRecDepth 100000 in
theorem bytealgCompare_any (a b : ByteArray) (w : World) :
    Calls Try.prog 44 #[.string a, .string b] w fun e w' => e = .returned (.int .i64 (Lib.compareBytes a.data.toList b.data.toList)) ∧ w' = w := by
  go_enter Try.func44, Try.ntmps44
  go_wp2
  rw [run_callFunc_extern Try.func50 (by kernel_rfl) (by kernel_rfl) (by kernel_rfl) (e := Extern.BytealgCompare.compare) (by kernel_rfl), Lib.run_compareString]
  simp only [Result.andThen]
  rw [Oper.upon_value]
  go_wp2
  go_ret
  exact ⟨rfl, rfl⟩

set_option maxHeartbeats 1000000 in
theorem strCompare_any (a b : ByteArray) (w : World) :
    Calls Try.prog 34 #[.string a, .string b] w fun e w' => e = .returned (.int .i64 (Lib.compareBytes a.data.toList b.data.toList)) ∧ w' = w := by
  go_enter Try.func34, Try.ntmps34
  go_wp2_with (go_at_call 44; refine (bytealgCompare_any _ _ _).mono ?_; rintro e w' ⟨rfl, rfl⟩)
  go_ret
  exact ⟨rfl, rfl⟩


theorem drop_at (s : ByteArray) (k : Nat) (h : k < s.size) : s.data.toList.drop k = s[k] :: s.data.toList.drop (k + 1) := by
  rw [List.drop_eq_getElem_cons (by simpa using h)]; rfl
theorem size_len (s : ByteArray) : s.data.toList.length = s.size := by rw [Array.length_toList]; rfl
theorem gd_at (s : ByteArray) (k : Nat) (h : k < s.size) : Pl.gd s.data.toList k = s[k].toNat := by
  unfold Pl.gd
  rw [List.getD_eq_getElem?_getD, List.getElem?_eq_getElem (by simpa using h)]
  rfl
theorem dig_bad (s : ByteArray) (k : Nat) (h : k < s.size) (hb : (s[k].toNat : Int) < 48 ∨ 57 < (s[k].toNat : Int)) : Pl.digB (s.data.toList.drop k) = false := by
  rw [drop_at s k h]
  simp only [Pl.digB, Bool.and_eq_false_iff, decide_eq_false_iff_not]
  left; omega
theorem dig_ok (s : ByteArray) (k : Nat) (h : k < s.size) (h1 : 48 ≤ (s[k].toNat : Int)) (h2 : (s[k].toNat : Int) ≤ 57) : Pl.digB (s.data.toList.drop k) = Pl.digB (s.data.toList.drop (k + 1)) := by
  rw [drop_at s k h]
  simp only [Pl.digB]
  rw [show decide (48 ≤ s[k].toNat ∧ s[k].toNat ≤ 57) = true by simp; omega]
  rfl

set_option maxHeartbeats 400000 in
theorem isDigits_any (s : ByteArray) (w : World) (hs : s.size ≤ maxLen) :
    Calls Try.prog 21 #[.string s] w fun e w' => e = .returned (.bool (Pl.digB s.data.toList)) ∧ w' = w := by
  unfold maxLen at hs
  go_enter Try.func21, Try.ntmps21
  go_wp2
  go_loop [3] (fun i => ∃ k : Nat, k ≤ s.size ∧ i = .int .i64 k ∧ Hid (Pl.digB s.data.toList = Pl.digB (s.data.toList.drop k))) (fun i => s.size - (intOf i).toNat)
  case atStart => exact ⟨0, Nat.zero_le _, rfl, hide rfl⟩
  case round =>
    obtain ⟨k, hk, rfl, hd⟩ := hrel
    by_cases hlt : k < s.size
    · by_cases h1 : (s[k].toNat : Int) < 48
      · have hb := hide (dig_bad s k hlt (Or.inl h1))
        go_wp2
        go_ret
        exact ⟨ret_bool (by rw [unhide hd, unhide hb]), rfl⟩
      · by_cases h2 : 57 < (s[k].toNat : Int)
        · have hb := hide (dig_bad s k hlt (Or.inr h2))
          go_wp2
          go_ret
          exact ⟨ret_bool (by rw [unhide hd, unhide hb]), rfl⟩
        · have hb := hide (dig_ok s k hlt (by omega) (by omega))
          go_wp2
          go_round
          case rel => exact ⟨k + 1, by omega, by go_num, hide (by rw [unhide hd, unhide hb])⟩
          case measure => simp [intOf]; omega
    · go_wp2
      go_ret
      exact ⟨ret_bool (by rw [unhide hd, List.drop_eq_nil_of_le (by rw [size_len]; omega)]; rfl), rfl⟩

/-! ### padLeftDigit, padRightDigit -/
theorem padL_lo (s : ByteArray) (n i : Nat) (h : i + s.size < n) : Pl.padL s.data.toList n i = 48 := by
  unfold Pl.padL; rw [size_len, if_pos h]
theorem padL_hi (s : ByteArray) (n i k : Nat) (h : i + s.size = n + k) (hk : k < s.size) : Pl.padL s.data.toList n i = s[k].toNat := by
  unfold Pl.padL; rw [size_len, if_neg (by omega), ← gd_at s k hk]; congr 1; omega

set_option maxHeartbeats 400000 in
theorem padLeft_any (s : ByteArray) (n i : Nat) (w : World) (hn : n ≤ 65536) (hsn : s.size ≤ n) (hi : i < n) :
    Calls Try.prog 35 #[.string s, .int .i64 n, .int .i64 i] w fun e w' => e = .returned (.int .u8 (Pl.padL s.data.toList n i)) ∧ w' = w := by
  by_cases h : i + s.size < n
  · have hb := hide (padL_lo s n i h)
    have h' : (i : Int) - ((n : Int) - (s.size : Int)) < 0 := by omega
    go_enter Try.func35, Try.ntmps35
    go_wp2
    go_ret
    exact ⟨ret_int (by rw [unhide hb]; rfl), rfl⟩
  · obtain ⟨k, hk⟩ : ∃ k, i + s.size = n + k := ⟨i + s.size - n, by omega⟩
    have hks : k < s.size := by omega
    have hb := hide (padL_hi s n i k hk hks)
    have he : (i : Int) - ((n : Int) - (s.size : Int)) = (k : Int) := by omega
    go_enter Try.func35, Try.ntmps35
    go_wp2
    go_ret
    exact ⟨ret_int (by rw [unhide hb]), rfl⟩

set_option maxHeartbeats 400000 in
theorem padRight_any (s : ByteArray) (i : Nat) (w : World) :
    Calls Try.prog 36 #[.string s, .int .i64 i] w fun e w' => e = .returned (.int .u8 (Pl.padR s.data.toList i)) ∧ w' = w := by
  by_cases h : i < s.size
  · have hb : Hid (Pl.padR s.data.toList i = s[i].toNat) := hide (by rw [Pl.padR_lt _ _ (by rw [size_len]; exact h), gd_at s i h])
    go_enter Try.func36, Try.ntmps36
    go_wp2
    go_ret
    exact ⟨ret_int (by rw [unhide hb]), rfl⟩
  · have hb : Hid (Pl.padR s.data.toList i = 48) := hide (by rw [Pl.padR_ge _ _ (by rw [size_len]; exact h)])
    go_enter Try.func36, Try.ntmps36
    go_wp2
    go_ret
    exact ⟨ret_int (by rw [unhide hb]; rfl), rfl⟩

end Go.Proofs.Qxb6614662a
