import Derived.Test.Qxb6614662aTexts
namespace Go.Proofs.Qxb6614662a
open Go.RowKit
set_option linter.unusedVariables false

def SomeBool (w : World) (e : Ending) (w' : World) : Prop := ∃ r : Bool, e = .returned (.bool r) ∧ w = w'
def SomeInt (w : World) (e : Ending) (w' : World) : Prop := ∃ r : Int, e = .returned (.int .i64 r) ∧ w = w'

set_option maxHeartbeats 1000000 in
theorem bytes18_none (gn : Bool) (gk : Int) (ao : Option Addr) (cap : Nat) (at_ : Int) (t x : ByteArray) (wk : Int) (wn : Bool) (w : World) (h1 : t.size ≤ maxLen) (h2 : x.size ≤ maxLen) :
    Calls Try.prog 18 #[.bool gn, .int .u8 gk, .slice ao 0 cap, .int .i64 at_, .string t, .string x, .int .u8 wk, .bool wn] w fun e w' => SomeBool w e w' := by
  unfold maxLen at *
  go_enter Try.func18, Try.ntmps18
  go_wp2
  go_loop [17, 18] (fun z i => z = .int .i64 0 ∧ i = .int .i64 0) (fun _ i => 0)
  case atStart => exact ⟨rfl, rfl⟩
  case round =>
    obtain ⟨rfl, rfl⟩ := hrel
    go_wp2
    all_goals (go_ret; exact ⟨_, rfl, rfl⟩)

set_option maxHeartbeats 1000000 in
theorem bytes18_some (gn : Bool) (gk : Int) (b off n cap : Nat) (f : Nat → ByteArray) (at_ : Int) (t x : ByteArray) (wk : Int) (wn : Bool) (w : World) (h1 : t.size ≤ maxLen) (h2 : x.size ≤ maxLen) (hn : n ≤ maxLen) (ht : Txt w b off n f) :
    Calls Try.prog 18 #[.bool gn, .int .u8 gk, .slice (some ⟨b, off, none⟩) n cap, .int .i64 at_, .string t, .string x, .int .u8 wk, .bool wn] w fun e w' => SomeBool w e w' := by
  unfold maxLen at h1 h2 hn
  by_cases hb : (1048576 : Int) < (n : Int)
  · go_enter Try.func18, Try.ntmps18
    go_wp2
    go_ret
    exact ⟨_, rfl, rfl⟩
  · go_enter Try.func18, Try.ntmps18
    go_wp2
    go_loop [17, 18] (fun z i => ∃ k c : Nat, k ≤ n ∧ c ≤ 1048576 ∧ z = .int .i64 c ∧ i = .int .i64 k) (fun _ i => n - (intOf i).toNat)
    case atStart => exact ⟨0, n, Nat.zero_le _, by omega, rfl, rfl⟩
    case round =>
      obtain ⟨k, c, hk, hc, rfl, rfl⟩ := hrel
      by_cases hlt : k < n
      · have hlt2 : (k : Int) < (n : Int) := by omega
        have hci := (ht k hlt).1
        have hsz := (ht k hlt).2
        unfold maxLen at hsz
        generalize f k = s at *
        by_cases g1 : (1048576 : Int) < (s.size : Int)
        · go_wp2
          go_ret
          exact ⟨_, rfl, rfl⟩
        · by_cases g2 : (1048576 : Int) < (c : Int) + (s.size : Int)
          · go_wp2
            go_ret
            exact ⟨_, rfl, rfl⟩
          · go_wp2
            go_round
            case rel => exact ⟨k + 1, c + s.size, by omega, by omega, by go_num, by go_num⟩
            case measure => simp [intOf]; omega
      · have hge : ¬ (k : Int) < (n : Int) := by omega
        go_wp2
        all_goals (go_ret; exact ⟨_, rfl, rfl⟩)

set_option maxHeartbeats 1000000 in
theorem texts14_none (ao : Option Addr) (cap : Nat) (z : Int) (w : World) :
    Calls Try.prog 14 #[.slice ao 0 cap, .int .i64 z] w fun e w' => SomeInt w e w' := by
  go_enter Try.func14, Try.ntmps14
  go_wp2
  go_loop [5, 6] (fun t i => t = .int .i64 z ∧ i = .int .i64 0) (fun _ i => 0)
  case atStart => exact ⟨rfl, rfl⟩
  case round =>
    obtain ⟨rfl, rfl⟩ := hrel
    go_wp2
    all_goals (go_ret; exact ⟨_, rfl, rfl⟩)

set_option maxHeartbeats 1000000 in
theorem texts14_some (b off n cap : Nat) (f : Nat → ByteArray) (z : Int) (w : World) (hn : n ≤ maxLen) (ht : Txt w b off n f) :
    Calls Try.prog 14 #[.slice (some ⟨b, off, none⟩) n cap, .int .i64 z] w fun e w' => SomeInt w e w' := by
  unfold maxLen at hn
  go_enter Try.func14, Try.ntmps14
  go_wp2
  go_loop [5, 6] (fun t i => ∃ (k : Nat) (c : Int), k ≤ n ∧ t = .int .i64 c ∧ i = .int .i64 k) (fun _ i => n - (intOf i).toNat)
  case atStart => exact ⟨0, z, Nat.zero_le _, rfl, rfl⟩
  case round =>
    obtain ⟨k, c, hk, rfl, rfl⟩ := hrel
    by_cases hlt : k < n
    · have hlt2 : (k : Int) < (n : Int) := by omega
      have hci := (ht k hlt).1
      generalize f k = s at *
      go_wp2
      · go_ret
        exact ⟨_, rfl, rfl⟩
      · go_round
        case rel => exact ⟨k + 1, _, by omega, rfl, by go_num⟩
        case measure => simp [intOf]; omega
    · have hge : ¬ (k : Int) < (n : Int) := by omega
      go_wp2
      all_goals (go_ret; exact ⟨_, rfl, rfl⟩)

end Go.Proofs.Qxb6614662a
