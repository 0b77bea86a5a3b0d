import Derived.Test.Qxb6615102aLevels
namespace Go.Proofs.Qxb6615102a
open Go.RowKit
set_option linter.unusedVariables false

/-- The levels as zzWindowMax reads them. -/
def LvR (w : World) (P : List Nat) (K g : Nat) : Prop := (∀ i, i ≤ K → ∃ u, w.cell? ⟨g, i, none⟩ = some u ∧ WinAt w u P (2 ^ i)) ∧ P.length < 2 ^ (K + 1) ∧ K ≤ 70000
def WPost (P : List Nat) (lo hi : Nat) (w : World) (e : Ending) (w' : World) : Prop := ∃ q, lo ≤ q ∧ q < hi ∧ e = .returned (.int .i64 ((P.getD q 0 : Nat) : Int)) ∧ w = w'

set_option maxHeartbeats 2000000 in
theorem window_any (g cap K : Nat) (P : List Nat) (lo hi : Nat) (w : World) (h : LvR w P K g) (hlo : lo < hi) (hhi : hi ≤ P.length) (hP : P.length ≤ 65537) :
    Calls Try.prog 10 #[.slice (some ⟨g, 0, none⟩) (K + 1) cap, .int .i64 lo, .int .i64 hi] w fun e w' => WPost P lo hi w e w' := by
  obtain ⟨hr, hK, hKb⟩ := h
  have HR := hide hr
  have HK := hide hK
  clear hr hK
  obtain ⟨n, hn⟩ : ∃ n : Nat, n + lo = hi := ⟨hi - lo, by omega⟩
  have hnI : (hi : Int) - (lo : Int) = (n : Int) := by omega
  have hnH := hide hn
  have hn1 : 1 ≤ n := by omega
  have hn2 : n ≤ 65537 := by omega
  clear hn
  go_enter Try.func10, Try.ntmps10
  go_wp2_with fail
  go_loop [8, 9] (fun x y => ∃ k s : Nat, x = .int .i64 k ∧ y = .int .i64 s ∧ 1 ≤ s ∧ s ≤ n ∧ k ≤ s ∧ Hid (s = 2 ^ k)) (fun _ y => n - (intOf y).toNat)
  case atStart => exact ⟨0, 1, rfl, rfl, Nat.le_refl _, hn1, by omega, hide rfl⟩
  case round =>
    obtain ⟨k, s, rfl, rfl, hs1, hs2, hks, hpow⟩ := hrel
    obtain ⟨s2, hs⟩ : ∃ s2 : Nat, s2 = 2 * s := ⟨_, rfl⟩
    have hsI : 2 * (s : Int) = (s2 : Int) := by omega
    by_cases hlt : s2 ≤ n
    · have hltI : (s2 : Int) ≤ (n : Int) := by omega
      have hsH := hide hs
      clear hs
      go_wp2_with fail
      go_round
      case rel => exact ⟨k + 1, s2, by go_num, rfl, by have := unhide hsH; omega, hlt, by have := unhide hsH; omega, hide (by rw [unhide hsH, unhide hpow, Nat.pow_succ]; omega)⟩
      case measure => have := unhide hsH; simp [intOf]; omega
    · have hltI : ¬ (s2 : Int) ≤ (n : Int) := by omega
      have hkK : k < K + 1 := by
        have h1 : 2 ^ k < 2 ^ (K + 1) := by
          rw [← unhide hpow]
          have := unhide hnH
          have := unhide HK
          omega
        exact (Nat.pow_lt_pow_iff_right (by omega)).1 h1
      have hkI : (k : Int) < (K : Int) + 1 := by omega
      obtain ⟨u, hcu, hwin⟩ := unhide HR k (by omega)
      rw [← unhide hpow] at hwin
      obtain ⟨b, bc, rfl, hbl, hwr⟩ := hwin.read
      obtain ⟨L1, hL1⟩ : ∃ L1 : Nat, P.length + 1 - s = L1 := ⟨_, rfl⟩
      rw [hL1] at hcu
      have hnn := unhide hnH
      obtain ⟨q1, ha1, hb1, hc1⟩ := hwr lo (by omega)
      obtain ⟨h2, hh2⟩ : ∃ h2 : Nat, h2 + s = hi := ⟨hi - s, by omega⟩
      obtain ⟨q2, ha2, hb2, hc2⟩ := hwr h2 (by omega)
      have hh2I : (hi : Int) - (s : Int) = (h2 : Int) := by omega
      have hi1 : (lo : Int) < (L1 : Int) := by omega
      have hi2 : (h2 : Int) < (L1 : Int) := by omega
      have HQ1 : Hid (lo ≤ q1 ∧ q1 < hi) := hide ⟨by omega, by omega⟩
      have HQ2 : Hid (lo ≤ q2 ∧ q2 < hi) := hide ⟨by omega, by omega⟩
      obtain ⟨y1, hy1⟩ : ∃ y, P.getD q1 0 = y := ⟨_, rfl⟩
      obtain ⟨y2, hy2⟩ : ∃ y, P.getD q2 0 = y := ⟨_, rfl⟩
      rw [hy1] at hc1
      rw [hy2] at hc2
      have HY1 := hide hy1
      have HY2 := hide hy2
      clear hwin hwr hL1 hh2 ha1 ha2 hb1 hb2 hnn hs hy1 hy2
      by_cases hy : (y1 : Int) < (y2 : Int)
      · go_wp2_with fail
        go_ret
        exact ⟨q2, (unhide HQ2).1, (unhide HQ2).2, by rw [unhide HY2]; rfl, rfl⟩
      · go_wp2_with fail
        go_ret
        exact ⟨q1, (unhide HQ1).1, (unhide HQ1).2, by rw [unhide HY1]; rfl, rfl⟩
end Go.Proofs.Qxb6615102a
