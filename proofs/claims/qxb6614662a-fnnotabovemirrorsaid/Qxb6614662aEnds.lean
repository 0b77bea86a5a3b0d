import Derived.Test.Qxb6614662aMag
namespace Go.Proofs.Qxb6614662a
open Go.RowKit
set_option linter.unusedVariables false

theorem nul_size (s : ByteArray) : Pl.nul s.data.toList = s.toList.isEmpty := by
  unfold Pl.nul
  rw [Lib.toList_data]
  cases s.data.toList <;> rfl

set_option maxHeartbeats 400000 in
theorem sign_any (n : Bool) (wh fr : ByteArray) (w : World) :
    Calls Try.prog 27 #[.bool n, .string wh, .string fr] w fun e w' => e = .returned (.int .i64 (Pl.sgn n wh.data.toList fr.data.toList)) ∧ w' = w := by
  have e1 := hide (nul_size wh)
  have e2 := hide (nul_size fr)
  cases h1 : wh.toList.isEmpty <;> cases h2 : fr.toList.isEmpty <;> cases n
  all_goals
    go_enter Try.func27, Try.ntmps27
    go_wp2
    go_ret
    exact ⟨ret_int (by unfold Pl.sgn; rw [unhide e1, unhide e2, h1, h2]; rfl), rfl⟩

theorem sgn_range (n : Bool) (wh fr : List UInt8) : Pl.sgn n wh fr = -1 ∨ Pl.sgn n wh fr = 0 ∨ Pl.sgn n wh fr = 1 := by
  unfold Pl.sgn
  cases (Pl.nul wh && Pl.nul fr) <;> cases n <;> simp

theorem decLe_ne (an : Bool) (aw af : List UInt8) (bn : Bool) (bw bf : List UInt8) (h : Pl.sgn an aw af ≠ Pl.sgn bn bw bf) : Pl.decLe an aw af bn bw bf = decide (Pl.sgn an aw af < Pl.sgn bn bw bf) := by
  unfold Pl.decLe; rw [if_neg h]
theorem decLe_zero (an : Bool) (aw af : List UInt8) (bn : Bool) (bw bf : List UInt8) (h : Pl.sgn an aw af = Pl.sgn bn bw bf) (h0 : Pl.sgn an aw af = 0) : Pl.decLe an aw af bn bw bf = true := by
  unfold Pl.decLe; rw [if_pos h, if_pos h0]
theorem decLe_neg (an : Bool) (aw af : List UInt8) (bn : Bool) (bw bf : List UInt8) (h : Pl.sgn an aw af = Pl.sgn bn bw bf) (h0 : Pl.sgn an aw af < 0) : Pl.decLe an aw af bn bw bf = decide (0 ≤ Pl.mag aw af bw bf) := by
  unfold Pl.decLe; rw [if_pos h, if_neg (by omega), if_pos h0]
theorem decLe_pos (an : Bool) (aw af : List UInt8) (bn : Bool) (bw bf : List UInt8) (h : Pl.sgn an aw af = Pl.sgn bn bw bf) (h0 : 0 < Pl.sgn an aw af) : Pl.decLe an aw af bn bw bf = decide (Pl.mag aw af bw bf ≤ 0) := by
  unfold Pl.decLe; rw [if_pos h, if_neg (by omega), if_neg (by omega)]

set_option maxHeartbeats 1000000 in
theorem decAtMost_any (an : Bool) (aw af : ByteArray) (bn : Bool) (bw bf : ByteArray) (w : World) (h1 : aw.size ≤ 65536) (h2 : af.size ≤ 65536) (h3 : bw.size ≤ 65536) (h4 : bf.size ≤ 65536) :
    Calls Try.prog 23 #[.bool an, .string aw, .string af, .bool bn, .string bw, .string bf] w fun e w' => e = .returned (.bool (Pl.decLe an aw.data.toList af.data.toList bn bw.data.toList bf.data.toList)) ∧ w' = w := by
  have c1 := fun w => sign_any an aw af w
  have c2 := fun w => sign_any bn bw bf w
  have c3 := fun w => mag_any aw af bw bf w h1 h2 h3 h4
  have r0 := decLe_ne an aw.data.toList af.data.toList bn bw.data.toList bf.data.toList
  have r1 := decLe_zero an aw.data.toList af.data.toList bn bw.data.toList bf.data.toList
  have r2 := decLe_neg an aw.data.toList af.data.toList bn bw.data.toList bf.data.toList
  have r3 := decLe_pos an aw.data.toList af.data.toList bn bw.data.toList bf.data.toList
  generalize Pl.sgn an aw.data.toList af.data.toList = sa at *
  generalize Pl.sgn bn bw.data.toList bf.data.toList = sb at *
  generalize Pl.mag aw.data.toList af.data.toList bw.data.toList bf.data.toList = m at *
  generalize Pl.decLe an aw.data.toList af.data.toList bn bw.data.toList bf.data.toList = r at *
  have d1 := hide c1; have d2 := hide c2; have d3 := hide c3
  clear c1 c2 c3
  by_cases hne : sa = sb
  · subst hne
    by_cases h0 : sa = 0
    · have hr := hide (r1 rfl h0)
      clear r0 r1 r2 r3
      subst h0
      go_enter Try.func23, Try.ntmps23
      go_wp2_with fail
      refine (unhide d1 _).mono ?_
      rintro e w' ⟨rfl, rfl⟩
      go_wp2_with fail
      refine (unhide d2 _).mono ?_
      rintro e w' ⟨rfl, rfl⟩
      go_wp2_with fail
      go_ret
      exact ⟨ret_bool (unhide hr).symm, rfl⟩
    · by_cases hs : sa < 0
      · have hr := hide (r2 rfl hs)
        clear r0 r1 r2 r3
        have h0' : (sa == 0) = false := by simpa using h0
        go_enter Try.func23, Try.ntmps23
        go_wp2_with fail
        refine (unhide d1 _).mono ?_
        rintro e w' ⟨rfl, rfl⟩
        go_wp2_with fail
        refine (unhide d2 _).mono ?_
        rintro e w' ⟨rfl, rfl⟩
        go_wp2_with fail
        refine (unhide d3 _).mono ?_
        rintro e w' ⟨rfl, rfl⟩
        go_wp2_with fail
        go_ret
        exact ⟨ret_bool (unhide hr).symm, rfl⟩
      · have hr := hide (r3 rfl (by omega))
        clear r0 r1 r2 r3
        have h0' : (sa == 0) = false := by simpa using h0
        go_enter Try.func23, Try.ntmps23
        go_wp2_with fail
        refine (unhide d1 _).mono ?_
        rintro e w' ⟨rfl, rfl⟩
        go_wp2_with fail
        refine (unhide d2 _).mono ?_
        rintro e w' ⟨rfl, rfl⟩
        go_wp2_with fail
        refine (unhide d3 _).mono ?_
        rintro e w' ⟨rfl, rfl⟩
        go_wp2_with fail
        go_ret
        exact ⟨ret_bool (unhide hr).symm, rfl⟩
  · have hr := hide (r0 hne)
    have hne' : (sa != sb) = true := by simpa using hne
    clear r0 r1 r2 r3
    go_enter Try.func23, Try.ntmps23
    go_wp2_with fail
    refine (unhide d1 _).mono ?_
    rintro e w' ⟨rfl, rfl⟩
    go_wp2_with fail
    refine (unhide d2 _).mono ?_
    rintro e w' ⟨rfl, rfl⟩
    go_wp2_with fail
    go_ret
    exact ⟨ret_bool (unhide hr).symm, rfl⟩

set_option maxHeartbeats 400000 in
theorem endAtMost_any (ab an : Bool) (aw af : ByteArray) (bb bn : Bool) (bw bf : ByteArray) (w : World) (h1 : aw.size ≤ 65536) (h2 : af.size ≤ 65536) (h3 : bw.size ≤ 65536) (h4 : bf.size ≤ 65536) :
    Calls Try.prog 10 #[.bool ab, .bool an, .string aw, .string af, .bool bb, .bool bn, .string bw, .string bf] w fun e w' => e = .returned (.bool (Pl.endLe ab an aw.data.toList af.data.toList bb bn bw.data.toList bf.data.toList)) ∧ w' = w := by
  cases ab
  · go_enter Try.func10, Try.ntmps10
    go_wp2
    go_ret
    exact ⟨rfl, rfl⟩
  · cases bb
    · go_enter Try.func10, Try.ntmps10
      go_wp2
      go_ret
      exact ⟨rfl, rfl⟩
    · go_enter Try.func10, Try.ntmps10
      go_wp2_with (go_at_call 23; refine (decAtMost_any _ _ _ _ _ _ _ h1 h2 h3 h4).mono ?_; rintro e w' ⟨rfl, rfl⟩)
      go_ret
      exact ⟨rfl, rfl⟩

end Go.Proofs.Qxb6614662a
