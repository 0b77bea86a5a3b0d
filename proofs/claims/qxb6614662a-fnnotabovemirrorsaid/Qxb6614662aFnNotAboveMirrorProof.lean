/-
  THE SHELL OF A PROOF OF 'Rows.FnNotAboveMirrorSaid' ('example.com/callsift/callsift/zzlaws_root_b1.FnNotAboveMirror'), WRITTEN BY PROGRAM (proof-skeleton.mjs) off the guide's own print for that function. Not trusted: Lean checks it.
  The walk is ours; all else is the guide's template at this function's number and types.
-/
import Derived.Test.Qxb6614662aRows
import Derived.WalkKit
import Derived.ProofKit
import Derived.OpenShut
import Derived.ShutString
import Derived.Test.Qxb6614662aAbove
namespace Go.Proofs.Qxb6614662a.fnNotAboveMirror
open Go.ChangeShapes Go.WideShapes Go.ChangeAt Go.RowKit
open Go.ChangeMaps (open_string shut_string)
set_option linter.unusedVariables false      -- a walk need not use every 'w<i>' (that an integer argument fits its kind)

theorem own : ownKnob Try.prog.godebug = none := by kernel_rfl

/-! ### the ways out ahead of the two calls -/
set_option maxHeartbeats 1000000 in
theorem early_c2 (a0 : Bool) (a1 : Bool) (a2 : ByteArray) (a3 : ByteArray) (a4 : Bool) (a5 : Bool) (a6 : ByteArray) (a7 : ByteArray) (w2 : a2.size ≤ maxLen) (w3 : a3.size ≤ maxLen) (w6 : a6.size ≤ maxLen) (w7 : a7.size ≤ maxLen) (c2 : ¬ a2.size ≤ 65536) (w : World) :
    Calls Try.prog 4 #[.bool a0, .bool a1, .string a2, .string a3, .bool a4, .bool a5, .string a6, .string a7] w fun e w' => e = .returned (.bool true) ∧ Grown w w' := by
  go_enter Try.func4, Try.ntmps4
  go_wp2_with fail
  refine (bytes11_any a0 a1 a2 a3 a4 a5 a6 a7 _ w2 w3 w6 w7).mono ?_
  rintro e w' ⟨r, rfl, rfl⟩
  cases r
  · go_wp2
    go_ret
    exact ⟨rfl, Grown.refl _⟩
  · go_wp2
    go_ret
    exact ⟨rfl, Grown.refl _⟩

set_option maxHeartbeats 1000000 in
theorem early_c3 (a0 : Bool) (a1 : Bool) (a2 : ByteArray) (a3 : ByteArray) (a4 : Bool) (a5 : Bool) (a6 : ByteArray) (a7 : ByteArray) (w2 : a2.size ≤ maxLen) (w3 : a3.size ≤ maxLen) (w6 : a6.size ≤ maxLen) (w7 : a7.size ≤ maxLen) (c2 : a2.size ≤ 65536) (c3 : ¬ a3.size ≤ 65536) (w : World) :
    Calls Try.prog 4 #[.bool a0, .bool a1, .string a2, .string a3, .bool a4, .bool a5, .string a6, .string a7] w fun e w' => e = .returned (.bool true) ∧ Grown w w' := by
  go_enter Try.func4, Try.ntmps4
  go_wp2_with fail
  refine (bytes11_any a0 a1 a2 a3 a4 a5 a6 a7 _ w2 w3 w6 w7).mono ?_
  rintro e w' ⟨r, rfl, rfl⟩
  cases r
  · go_wp2
    go_ret
    exact ⟨rfl, Grown.refl _⟩
  · go_wp2
    go_ret
    exact ⟨rfl, Grown.refl _⟩

set_option maxHeartbeats 1000000 in
theorem early_c6 (a0 : Bool) (a1 : Bool) (a2 : ByteArray) (a3 : ByteArray) (a4 : Bool) (a5 : Bool) (a6 : ByteArray) (a7 : ByteArray) (w2 : a2.size ≤ maxLen) (w3 : a3.size ≤ maxLen) (w6 : a6.size ≤ maxLen) (w7 : a7.size ≤ maxLen) (c2 : a2.size ≤ 65536) (c3 : a3.size ≤ 65536) (c6 : ¬ a6.size ≤ 65536) (w : World) :
    Calls Try.prog 4 #[.bool a0, .bool a1, .string a2, .string a3, .bool a4, .bool a5, .string a6, .string a7] w fun e w' => e = .returned (.bool true) ∧ Grown w w' := by
  go_enter Try.func4, Try.ntmps4
  go_wp2_with fail
  refine (bytes11_any a0 a1 a2 a3 a4 a5 a6 a7 _ w2 w3 w6 w7).mono ?_
  rintro e w' ⟨r, rfl, rfl⟩
  cases r
  · go_wp2
    go_ret
    exact ⟨rfl, Grown.refl _⟩
  · go_wp2
    go_ret
    exact ⟨rfl, Grown.refl _⟩

set_option maxHeartbeats 1000000 in
theorem early_c7 (a0 : Bool) (a1 : Bool) (a2 : ByteArray) (a3 : ByteArray) (a4 : Bool) (a5 : Bool) (a6 : ByteArray) (a7 : ByteArray) (w2 : a2.size ≤ maxLen) (w3 : a3.size ≤ maxLen) (w6 : a6.size ≤ maxLen) (w7 : a7.size ≤ maxLen) (c2 : a2.size ≤ 65536) (c3 : a3.size ≤ 65536) (c6 : a6.size ≤ 65536) (c7 : ¬ a7.size ≤ 65536) (w : World) :
    Calls Try.prog 4 #[.bool a0, .bool a1, .string a2, .string a3, .bool a4, .bool a5, .string a6, .string a7] w fun e w' => e = .returned (.bool true) ∧ Grown w w' := by
  go_enter Try.func4, Try.ntmps4
  go_wp2_with fail
  refine (bytes11_any a0 a1 a2 a3 a4 a5 a6 a7 _ w2 w3 w6 w7).mono ?_
  rintro e w' ⟨r, rfl, rfl⟩
  cases r
  · go_wp2
    go_ret
    exact ⟨rfl, Grown.refl _⟩
  · go_wp2
    go_ret
    exact ⟨rfl, Grown.refl _⟩

set_option maxHeartbeats 1000000 in
theorem early1 (a0 : Bool) (a1 : Bool) (a2 : ByteArray) (a3 : ByteArray) (a4 : Bool) (a5 : Bool) (a6 : ByteArray) (a7 : ByteArray) (w2 : a2.size ≤ maxLen) (w3 : a3.size ≤ maxLen) (w6 : a6.size ≤ maxLen) (w7 : a7.size ≤ maxLen) (c2 : a2.size ≤ 65536) (c3 : a3.size ≤ 65536) (c6 : a6.size ≤ 65536) (c7 : a7.size ≤ 65536) (f1 : Pl.wfB a0 a1 a2.data.toList a3.data.toList = false) (w : World) :
    Calls Try.prog 4 #[.bool a0, .bool a1, .string a2, .string a3, .bool a4, .bool a5, .string a6, .string a7] w fun e w' => e = .returned (.bool true) ∧ Grown w w' := by
  have F1 := hide f1; clear f1
  go_enter Try.func4, Try.ntmps4
  go_wp2_with fail
  refine (bytes11_any a0 a1 a2 a3 a4 a5 a6 a7 _ w2 w3 w6 w7).mono ?_
  rintro e w' ⟨r, rfl, rfl⟩
  cases r
  · go_wp2
    go_ret
    exact ⟨rfl, Grown.refl _⟩
  · go_wp2_with fail
    refine (wf_any a0 a1 a2 a3 _ c2 c3).mono ?_
    rw [unhide F1]
    rintro e w' ⟨rfl, rfl⟩
    go_wp2_with fail
    go_ret
    exact ⟨rfl, Grown.refl _⟩

set_option maxHeartbeats 1000000 in
theorem early2 (a0 : Bool) (a1 : Bool) (a2 : ByteArray) (a3 : ByteArray) (a4 : Bool) (a5 : Bool) (a6 : ByteArray) (a7 : ByteArray) (w2 : a2.size ≤ maxLen) (w3 : a3.size ≤ maxLen) (w6 : a6.size ≤ maxLen) (w7 : a7.size ≤ maxLen) (c2 : a2.size ≤ 65536) (c3 : a3.size ≤ 65536) (c6 : a6.size ≤ 65536) (c7 : a7.size ≤ 65536) (f1 : Pl.wfB a0 a1 a2.data.toList a3.data.toList = true) (f2 : Pl.wfB a4 a5 a6.data.toList a7.data.toList = false) (w : World) :
    Calls Try.prog 4 #[.bool a0, .bool a1, .string a2, .string a3, .bool a4, .bool a5, .string a6, .string a7] w fun e w' => e = .returned (.bool true) ∧ Grown w w' := by
  have F1 := hide f1; have F2 := hide f2; clear f1 f2
  go_enter Try.func4, Try.ntmps4
  go_wp2_with fail
  refine (bytes11_any a0 a1 a2 a3 a4 a5 a6 a7 _ w2 w3 w6 w7).mono ?_
  rintro e w' ⟨r, rfl, rfl⟩
  cases r
  · go_wp2
    go_ret
    exact ⟨rfl, Grown.refl _⟩
  · go_wp2_with fail
    refine (wf_any a0 a1 a2 a3 _ c2 c3).mono ?_
    rw [unhide F1]
    rintro e w' ⟨rfl, rfl⟩
    go_wp2_with fail
    refine (wf_any a4 a5 a6 a7 _ c6 c7).mono ?_
    rw [unhide F2]
    rintro e w' ⟨rfl, rfl⟩
    go_wp2_with fail
    go_ret
    exact ⟨rfl, Grown.refl _⟩

set_option maxHeartbeats 2000000 in
theorem main (a0 : Bool) (a1 : Bool) (a2 : ByteArray) (a3 : ByteArray) (a4 : Bool) (a5 : Bool) (a6 : ByteArray) (a7 : ByteArray) (w2 : a2.size ≤ maxLen) (w3 : a3.size ≤ maxLen) (w6 : a6.size ≤ maxLen) (w7 : a7.size ≤ maxLen) (c2 : a2.size ≤ 65536) (c3 : a3.size ≤ 65536) (c6 : a6.size ≤ 65536) (c7 : a7.size ≤ 65536) (f1 : Pl.wfB a0 a1 a2.data.toList a3.data.toList = true) (f2 : Pl.wfB a4 a5 a6.data.toList a7.data.toList = true) (w : World) :
    Calls Try.prog 4 #[.bool a0, .bool a1, .string a2, .string a3, .bool a4, .bool a5, .string a6, .string a7] w fun e w' => e = .returned (.bool true) ∧ Grown w w' := by
  have k1 := Pl.notAb_eq f1 f2
  have k2 := Pl.notAb_mirror f1 f2
  have n1 := fun w => zz_any a0 a1 a2 a3 a4 a5 a6 a7 w c2 c6
  have n2 := fun w => zz_any a4 (Pl.mir a5 a6.data.toList a7.data.toList) a6 a7 a0 (Pl.mir a1 a2.data.toList a3.data.toList) a2 a3 w c6 c2
  have l1 := fun w => endAtMost_any a0 a1 a2 a3 a4 a5 a6 a7 w c2 c3 c6 c7
  have m1 := fun w => mir_any a5 a6 a7 w
  have m2 := fun w => mir_any a1 a2 a3 w
  rw [← k1] at l1
  rw [k2] at n2
  clear k1 k2
  generalize Pl.notAb a0 a1 a2.data.toList a3.data.toList a4 a5 a6.data.toList a7.data.toList = u at *
  generalize Pl.mir a5 a6.data.toList a7.data.toList = x1 at *
  generalize Pl.mir a1 a2.data.toList a3.data.toList = x2 at *
  have N1 := hide n1; have N2 := hide n2; have L1 := hide l1; have M1 := hide m1; have M2 := hide m2; have F1 := hide f1; have F2 := hide f2
  clear n1 n2 l1 m1 m2 f1 f2
  cases u
  all_goals
    go_enter Try.func4, Try.ntmps4
    go_wp2_with fail
    refine (bytes11_any a0 a1 a2 a3 a4 a5 a6 a7 _ w2 w3 w6 w7).mono ?_
    rintro e w' ⟨r, rfl, rfl⟩
    cases r
    · go_wp2
      go_ret
      exact ⟨rfl, Grown.refl _⟩
    go_wp2_with fail
    refine (wf_any a0 a1 a2 a3 _ c2 c3).mono ?_
    rw [unhide F1]
    rintro e w' ⟨rfl, rfl⟩
    go_wp2_with fail
    refine (wf_any a4 a5 a6 a7 _ c6 c7).mono ?_
    rw [unhide F2]
    rintro e w' ⟨rfl, rfl⟩
    go_wp2_with fail
    refine (unhide N1 _).mono ?_
    rintro e w1 ⟨rfl, g1⟩
    go_wp2_with fail
    refine (unhide M1 _).mono ?_
    rintro e w' ⟨rfl, rfl⟩
    go_wp2_with fail
    refine (unhide M2 _).mono ?_
    rintro e w' ⟨rfl, rfl⟩
    go_wp2_with fail
    refine (unhide N2 _).mono ?_
    rintro e w2 ⟨rfl, g2⟩
    go_wp2_with fail
    refine (unhide L1 _).mono ?_
    rintro e w3 ⟨rfl, rfl⟩
    go_wp2_with fail
    go_ret
    exact ⟨rfl, grown_trans g1 g2⟩

/-! ### STEP 1: THE WALK: the Go text returns true. 'Grown w w'': the world has at most new blocks (Derived/RowKit3.lean). Part the cases AHEAD of 'go_enter' where a test parts the walk; take each callee by a contract of your own. -/
theorem walk (a0 : Bool) (a1 : Bool) (a2 : ByteArray) (a3 : ByteArray) (a4 : Bool) (a5 : Bool) (a6 : ByteArray) (a7 : ByteArray) (w2 : a2.size ≤ maxLen) (w3 : a3.size ≤ maxLen) (w6 : a6.size ≤ maxLen) (w7 : a7.size ≤ maxLen) (w : World) :
    Calls Try.prog 4 #[.bool a0, .bool a1, .string a2, .string a3, .bool a4, .bool a5, .string a6, .string a7] w fun e w' => e = .returned (.bool true) ∧ Grown w w' := by
  by_cases c2 : a2.size ≤ 65536
  · by_cases c3 : a3.size ≤ 65536
    · by_cases c6 : a6.size ≤ 65536
      · by_cases c7 : a7.size ≤ 65536
        · cases f1 : Pl.wfB a0 a1 a2.data.toList a3.data.toList
          · exact early1 a0 a1 a2 a3 a4 a5 a6 a7 w2 w3 w6 w7 c2 c3 c6 c7 f1 w
          · cases f2 : Pl.wfB a4 a5 a6.data.toList a7.data.toList
            · exact early2 a0 a1 a2 a3 a4 a5 a6 a7 w2 w3 w6 w7 c2 c3 c6 c7 f1 f2 w
            · exact main a0 a1 a2 a3 a4 a5 a6 a7 w2 w3 w6 w7 c2 c3 c6 c7 f1 f2 w
        · exact early_c7 a0 a1 a2 a3 a4 a5 a6 a7 w2 w3 w6 w7 c2 c3 c6 c7 w
      · exact early_c6 a0 a1 a2 a3 a4 a5 a6 a7 w2 w3 w6 w7 c2 c3 c6 w
    · exact early_c3 a0 a1 a2 a3 a4 a5 a6 a7 w2 w3 w6 w7 c2 c3 w
  · exact early_c2 a0 a1 a2 a3 a4 a5 a6 a7 w2 w3 w6 w7 c2 w

/-! ### THE ROW's STEP: WRITTEN OUT: LEAVE IT -/
set_option maxRecDepth 100000 in
theorem lifted (os : Os) (started : os.Started) (H : Type) (enc : TypeId × Value → H) :
    ReturnsInHanded {} Try.checked os 4 .any (Rows.fnNotAboveMirrorSpec.pre6 enc Try.prog Try.f4 Rows.fnNotAboveMirrorRow.domain false) (Rows.fnNotAboveMirrorSpec.post enc Try.prog Try.f4 false true false false) := by
  refine returnsInHanded_of_change (C := Try.checked) own started (by kernel_rfl) Try.func4
    (ChangeSpec.witness6 (enc := enc) (C := Try.checked) false ⟨#[], #[.bool false, .bool false, .string ByteArray.empty, .string ByteArray.empty, .bool false, .bool false, .string ByteArray.empty, .string ByteArray.empty], []⟩ 8 (by kernel_rfl) (by kernel_rfl) (by kernel_rfl) (by kernel_rfl)) ?_
  intro W base args ds gs before hval0 hW hcnd _
  have hval : ∀ (j : Nat) t v, Try.f4.params[j]? = some t → args[j]? = some v → Value.okWide Try.prog W .any base t v := hval0
  have hW' := hW
  obtain ⟨p, q, hA0, hV, rfl, hfz, hnd⟩ := hW
  have hA : DataW.TrodAll enc Try.prog W 0 (fun _ => true) true Try.f4.params.toList args.toList ds p := hA0
  rw [Try.params4] at hA hval
  obtain ⟨v0, vs0, d0, ds0, p0, q0, hargs, rfl, rfl, h0, r0⟩ := trodAll_cons hA
  obtain ⟨v1, vs1, d1, ds1, p1, q1, rfl, rfl, rfl, h1, r1⟩ := trodAll_cons r0
  obtain ⟨v2, vs2, d2, ds2, p2, q2, rfl, rfl, rfl, h2, r2⟩ := trodAll_cons r1
  obtain ⟨v3, vs3, d3, ds3, p3, q3, rfl, rfl, rfl, h3, r3⟩ := trodAll_cons r2
  obtain ⟨v4, vs4, d4, ds4, p4, q4, rfl, rfl, rfl, h4, r4⟩ := trodAll_cons r3
  obtain ⟨v5, vs5, d5, ds5, p5, q5, rfl, rfl, rfl, h5, r5⟩ := trodAll_cons r4
  obtain ⟨v6, vs6, d6, ds6, p6, q6, rfl, rfl, rfl, h6, r6⟩ := trodAll_cons r5
  obtain ⟨v7, vs7, d7, ds7, p7, q7, rfl, rfl, rfl, h7, r7⟩ := trodAll_cons r6
  obtain ⟨rfl, rfl, rfl⟩ := trodAll_nil r7
  obtain rfl : args = #[v0, v1, v2, v3, v4, v5, v6, v7] := by cases args; simp_all
  obtain ⟨rfl, rfl⟩ := trodVars_none hV
  obtain ⟨a0, rfl, rfl, rfl⟩ := open_bool Try.underlying4 (hval 0 4 v0 rfl rfl) h0
  obtain ⟨a1, rfl, rfl, rfl⟩ := open_bool Try.underlying4 (hval 1 4 v1 rfl rfl) h1
  obtain ⟨a2, rfl, rfl, rfl, w2⟩ := open_string Try.underlying9 (hval 2 9 v2 rfl rfl) h2
  obtain ⟨a3, rfl, rfl, rfl, w3⟩ := open_string Try.underlying9 (hval 3 9 v3 rfl rfl) h3
  obtain ⟨a4, rfl, rfl, rfl⟩ := open_bool Try.underlying4 (hval 4 4 v4 rfl rfl) h4
  obtain ⟨a5, rfl, rfl, rfl⟩ := open_bool Try.underlying4 (hval 5 4 v5 rfl rfl) h5
  obtain ⟨a6, rfl, rfl, rfl, w6⟩ := open_string Try.underlying9 (hval 6 9 v6 rfl rfl) h6
  obtain ⟨a7, rfl, rfl, rfl, w7⟩ := open_string Try.underlying9 (hval 7 9 v7 rfl rfl) h7
  clear hA0 hval0
  simp only [List.append_nil] at hW'
  refine (walk a0 a1 a2 a3 a4 a5 a6 a7 w2 w3 w6 w7 W).mono fun e W' ⟨he, hg⟩ => ?_
  subst he
  exact ⟨_, rfl, post_of_same (pa := []) (pv := []) hW' (fun _ _ _ => (trodAll_cons_mk (shut_bool Try.underlying4 _) trodAll_mk0)) (fun sp _ => (trodAll_cons_mk (shut_bool Try.underlying4 _) (trodAll_cons_mk (shut_bool Try.underlying4 _) (trodAll_cons_mk (shut_string Try.underlying9 w2) (trodAll_cons_mk (shut_string Try.underlying9 w3) (trodAll_cons_mk (shut_bool Try.underlying4 _) (trodAll_cons_mk (shut_bool Try.underlying4 _) (trodAll_cons_mk (shut_string Try.underlying9 w6) (trodAll_cons_mk (shut_string Try.underlying9 w7) trodAll_mk0))))))))) (fun _ _ => rfl) rfl
    (hg.frame _) hg.2.1 (ok_one (by kernel_rfl) rfl (okWide_bool_mk Try.underlying4 _))⟩

theorem over : Rows.fnNotAboveMirrorRow.holds Try.pinned (OpenSpec.ofChange Rows.fnNotAboveMirrorSpec) :=
  OpenClaim.holds_of_wide 4 Try.f4 rfl rfl rfl rfl rfl rfl rfl ⟨rfl, rfl, rfl, rfl, rfl⟩ rfl rfl rfl rfl rfl (by kernel_rfl) Try.func4 (by kernel_rfl)
    (of_decide_eq_true (by kernel_rfl)) (by unfold Func.isWrapper; first | (rw [if_pos (by decide +kernel)]; kernel_rfl) | (rw [if_neg (by decide +kernel)]; exact ⟨rfl, rfl⟩))
    (fun os started H enc _ => lifted os started H enc)

/-- ████ THE STATEMENT ████ -/
theorem proved : Rows.FnNotAboveMirrorSaid :=
  over
#print axioms proved
end Go.Proofs.Qxb6614662a.fnNotAboveMirror
