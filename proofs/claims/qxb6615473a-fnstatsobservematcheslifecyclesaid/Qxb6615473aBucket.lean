import Derived.Test.Qxb6615473aLen64
import Derived.Test.Qxb6615473aBkPlain
import Derived.WalkKit
import Derived.WalkSpells
import Derived.LoopTactic
import Derived.Deep.QuietTactic
import Derived.BigQuiet
namespace Go.Proofs.Qxb6615473a
open Go.RowKit
set_option linter.unusedVariables false
theorem hide {p : Prop} (h : p) : Hid p := h
theorem unhide {p : Prop} (h : Hid p) : p := h

set_option maxHeartbeats 1000000 in
theorem bucket_any (d : Nat) (w : World) (hd : d < 9223372036854775808) :
    Calls Try.prog 44 #[.int .i64 d] w fun e w' => e = .returned (.int .i64 (bkt d)) ∧ w = w' := by
  have hs := sft_le d (by omega)
  have hq := quo_lt d (by omega)
  have hL : Lib.bitLen d ≤ 64 := by have := hs; unfold sft at this; omega
  have hdI : (d : Int) < 9223372036854775808 := by omega
  obtain ⟨s, hsd⟩ : ∃ s, sft d = s := ⟨_, rfl⟩
  obtain ⟨q, hqd⟩ : ∃ q, d / 2 ^ s = q := ⟨_, rfl⟩
  obtain ⟨L, hLd⟩ : ∃ L, Lib.bitLen d = L := ⟨_, rfl⟩
  have hb : Hid (bkt d = s * 32 + q) := hide (by unfold bkt; rw [hsd, hqd, Nat.mul_comm])
  have hmax : max ((L : Int) - 5 - 1) 0 = (s : Int) := by rw [← hsd, ← hLd]; unfold sft; omega
  have hqI : (d : Int) / 2 ^ s = (q : Int) := by rw [← hqd]; simp
  rw [hsd] at hs hq
  rw [hqd] at hq
  rw [hLd] at hL
  have HLD := hide hLd
  have hs64 : (s : Int) ≤ 64 := by omega
  clear hsd hqd hLd
  go_enter Try.func44, Try.ntmps44
  go_wp2_with fail
  refine (len64_any (d : Int) w (by omega) (by omega)).mono ?_
  rintro e w' ⟨rfl, hw⟩
  obtain rfl := hw.symm
  rw [show ((d : Int)).toNat = d from rfl, unhide HLD]
  go_wp2_with fail
  go_ret
  refine ⟨?_, rfl⟩
  rw [unhide hb]
  congr 2
  all_goals first | rfl | (simp; done) | omega
end Go.Proofs.Qxb6615473a
