import Derived.Test.Qxb6615473aZero
namespace Go.Proofs.Qxb6615473a
open Go.RowKit Go.Maps
set_option linter.unusedVariables false

set_option maxHeartbeats 1000000 in
theorem waits_any (b : Nat) (c t m : Int) (w : World) (h1 : w.cell? ⟨b, 11, none⟩ = some (.int .i64 c)) (h2 : w.cell? ⟨b, 12, none⟩ = some (.int .i64 t)) (h3 : w.cell? ⟨b, 13, none⟩ = some (.int .i64 m)) :
    Calls Try.prog 26 #[.pointer (some ⟨b, 0, none⟩)] w fun e w' => e = .returned (.tuple #[.int .i64 c, .int .i64 t, .int .i64 m]) ∧ ∃ q, w' = w.drewN q := by
  go_enter Try.func26, Try.ntmps26
  go_wp2_with fail
  go_quiet (fail)
  go_wp2_with fail
  refine bodyPost_ret (results_tmp3 rfl _ _ _) rfl ?_
  exact ⟨rfl, _, rfl⟩

set_option maxHeartbeats 1000000 in
theorem bucket_get (b j : Nat) (c : Int) (w : World) (hj : j < 1888) (h1 : w.cell? ⟨b, 14 + j, none⟩ = some (.int .i64 c)) :
    Calls Try.prog 27 #[.pointer (some ⟨b, 0, none⟩), .int .i64 (j : Int)] w fun e w' => e = .returned (.int .i64 c) ∧ w = w' := by
  have hj' : (j : Int) < 1888 := by omega
  go_enter Try.func27, Try.ntmps27
  go_wp2_with fail
  go_ret
  exact ⟨rfl, rfl⟩

/-- zzBytes: where it says yes no text is longer than a mebibyte. -/
def ByPost (N : Nat) (E : Nat → Ev) (w : World) (e : Ending) (w' : World) : Prop := ∃ r : Bool, e = .returned (.bool r) ∧ (r = true → ∀ i, i < N → (E i).ty.size ≤ 1048576 ∧ (E i).rs.size ≤ 1048576) ∧ w = w'
set_option maxHeartbeats 1000000 in
theorem bytes25_any (ao : Option Addr) (N cap : Nat) (E : Nat → Ev) (w : World) (h : EvAll w ao N E) :
    Calls Try.prog 25 #[.slice ao N cap] w fun e w' => ByPost N E w e w' := by
  obtain ⟨hN, hr⟩ := h
  have HR := hide hr
  clear hr
  unfold maxLen at hN
  by_cases hb : (1048576 : Int) < (N : Int)
  · go_enter Try.func25, Try.ntmps25
    go_wp2_with fail
    go_ret
    exact ⟨false, rfl, by simp, rfl⟩
  · go_enter Try.func25, Try.ntmps25
    go_wp2_with fail
    go_loop [3, 4] (fun z i => ∃ k c : Nat, k ≤ N ∧ c ≤ 1048576 ∧ z = .int .i64 c ∧ i = .int .i64 k ∧ Hid (∀ i, i < k → (E i).ty.size ≤ 1048576 ∧ (E i).rs.size ≤ 1048576)) (fun _ i => N - (intOf i).toNat)
    case atStart => exact ⟨0, N, Nat.zero_le _, by omega, rfl, rfl, hide (fun i hi => absurd hi (Nat.not_lt_zero i))⟩
    case round =>
      obtain ⟨k, c, hk, hc, rfl, rfl, hd⟩ := hrel
      by_cases hlt : k < N
      · have hlt2 : (k : Int) < (N : Int) := by omega
        obtain ⟨b, off, rfl, hbb, he⟩ := unhide HR k hlt
        obtain ⟨c0, c1, c2, c3, wi, wd, lt, lr⟩ := he
        unfold maxLen at lt lr
        by_cases g1 : (1048576 : Int) < ((E k).ty.size : Int)
        · go_wp2_with fail
          go_ret
          exact ⟨false, rfl, by simp, rfl⟩
        · by_cases g2 : (1048576 : Int) < (c : Int) + ((E k).ty.size : Int)
          · go_wp2_with fail
            go_ret
            exact ⟨false, rfl, by simp, rfl⟩
          · by_cases g3 : (1048576 : Int) < ((E k).rs.size : Int)
            · go_wp2_with fail
              go_ret
              exact ⟨false, rfl, by simp, rfl⟩
            · by_cases g4 : (1048576 : Int) < (c : Int) + ((E k).ty.size : Int) + ((E k).rs.size : Int)
              · go_wp2_with fail
                go_ret
                exact ⟨false, rfl, by simp, rfl⟩
              · have hs : Hid ((E k).ty.size ≤ 1048576 ∧ (E k).rs.size ≤ 1048576) := hide (by omega)
                go_wp2_with fail
                go_round
                case rel =>
                  refine ⟨k + 1, c + (E k).ty.size + (E k).rs.size, by omega, by omega, by go_num, by go_num, hide (fun i hi => ?_)⟩
                  rcases Nat.lt_or_ge i k with h' | h'
                  · exact unhide hd i h'
                  · have : i = k := by omega
                    subst this
                    exact unhide hs
                case measure => simp [intOf]; omega
      · have hge : ¬ (k : Int) < (N : Int) := by omega
        have ek : Hid (k = N) := hide (by omega)
        go_wp2_with fail
        go_ret
        exact ⟨true, rfl, fun _ i hi => unhide hd i (by rw [unhide ek]; exact hi), rfl⟩
end Go.Proofs.Qxb6615473a
