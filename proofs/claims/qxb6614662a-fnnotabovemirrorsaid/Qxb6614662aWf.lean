import Derived.Test.Qxb6614662aEnds
namespace Go.Proofs.Qxb6614662a
open Go.RowKit
set_option linter.unusedVariables false

theorem empty_of_size (s : ByteArray) (h : s.size = 0) : s.toList.isEmpty = true := by
  rw [← nul_size]; unfold Pl.nul; rw [size_len, h]; rfl
theorem nonempty_of_size (s : ByteArray) (h : 0 < s.size) : s.toList.isEmpty = false := by
  rw [← nul_size]; unfold Pl.nul; rw [size_len]; exact beq_eq_false_iff_ne.2 (by omega)
theorem head0_none (s : ByteArray) (h : s.size = 0) : Pl.head0 s.data.toList = false := by
  have : s.data.toList = [] := List.eq_nil_of_length_eq_zero (by rw [size_len, h])
  rw [this]; rfl
theorem last0_none (s : ByteArray) (h : s.size = 0) : Pl.last0 s.data.toList = false := by
  have : s.data.toList = [] := List.eq_nil_of_length_eq_zero (by rw [size_len, h])
  rw [this]; rfl
theorem head0_some (s : ByteArray) (h : 0 < s.size) : Pl.head0 s.data.toList = ((s[0].toNat : Int) == 48) := by
  have e := drop_at s 0 h
  rw [List.drop_zero] at e
  rw [e]
  simp only [Pl.head0]
  rw [Bool.eq_iff_iff]; simp; omega
theorem last0_get : ∀ (l : List UInt8) (h : 0 < l.length), Pl.last0 l = (l[l.length - 1].toNat == 48)
  | [], h => by simp at h
  | [c], _ => rfl
  | c :: d :: l, _ => by
    have ih := last0_get (d :: l) (by simp)
    rw [Pl.last0_cons, ih]
    simp
theorem last0_some (s : ByteArray) (h : 0 < s.size) : Pl.last0 s.data.toList = ((s[s.size - 1].toNat : Int) == 48) := by
  rw [last0_get _ (by rw [size_len]; exact h)]
  have e : s.data.toList[s.data.toList.length - 1]'(by rw [size_len]; omega) = s[s.size - 1] := by
    simp only [size_len]; rfl
  rw [e, Bool.eq_iff_iff]; simp; omega

set_option maxHeartbeats 1000000 in
theorem wf_unb (n : Bool) (wh fr : ByteArray) (w : World) :
    Calls Try.prog 8 #[.bool false, .bool n, .string wh, .string fr] w fun e w' => e = .returned (.bool (Pl.wfB false n wh.data.toList fr.data.toList)) ∧ w' = w := by
  have e1 := hide (nul_size wh)
  have e2 := hide (nul_size fr)
  cases h1 : wh.toList.isEmpty <;> cases h2 : fr.toList.isEmpty <;> cases n
  all_goals
    go_enter Try.func8, Try.ntmps8
    go_wp2
    go_ret
    exact ⟨ret_bool (by unfold Pl.wfB; rw [unhide e1, unhide e2, h1, h2]; rfl), rfl⟩

set_option maxHeartbeats 1000000 in
/-- Digits, no zero ahead, none behind: the last test. -/
theorem wf_end (n : Bool) (wh fr : ByteArray) (w : World) (s1 : wh.size ≤ 65536) (s2 : fr.size ≤ 65536) (d1 : Pl.digB wh.data.toList = true) (d2 : Pl.digB fr.data.toList = true)
    (z1 : Pl.head0 wh.data.toList = false) (z2 : Pl.last0 fr.data.toList = false) :
    Calls Try.prog 8 #[.bool true, .bool n, .string wh, .string fr] w fun e w' => e = .returned (.bool (Pl.wfB true n wh.data.toList fr.data.toList)) ∧ w' = w := by
  have e1 := hide (nul_size wh)
  have e2 := hide (nul_size fr)
  have m1 : wh.size ≤ maxLen := by unfold maxLen; omega
  have m2 : fr.size ≤ maxLen := by unfold maxLen; omega
  have D1 := hide d1; have D2 := hide d2; have Z1 := hide z1; have Z2 := hide z2
  clear d1 d2 z1 z2
  rcases Nat.eq_zero_or_pos wh.size with p1 | p1 <;> rcases Nat.eq_zero_or_pos fr.size with p2 | p2 <;> cases n
  all_goals
    first | have q1 := empty_of_size wh p1 | (have q1 := nonempty_of_size wh p1; have r1 : ((wh[0].toNat : Int) == 48) = false := (head0_some wh p1).symm.trans (unhide Z1))
    first | have q2 := empty_of_size fr p2 | (have q2 := nonempty_of_size fr p2; have r2 : ((fr[fr.size - 1].toNat : Int) == 48) = false := (last0_some fr p2).symm.trans (unhide Z2))
    go_enter Try.func8, Try.ntmps8
    go_wp2_with fail
    refine (isDigits_any wh _ m1).mono ?_
    rw [unhide D1]
    rintro e w' ⟨rfl, rfl⟩
    go_wp2_with fail
    refine (isDigits_any fr _ m2).mono ?_
    rw [unhide D2]
    rintro e w' ⟨rfl, rfl⟩
    go_wp2_with fail
    go_ret
    exact ⟨ret_bool (by unfold Pl.wfB; rw [unhide D1, unhide D2, unhide Z1, unhide Z2, unhide e1, unhide e2, q1, q2]; rfl), rfl⟩

set_option maxHeartbeats 1000000 in
theorem wf_d1 (n : Bool) (wh fr : ByteArray) (w : World) (s1 : wh.size ≤ 65536) (d1 : Pl.digB wh.data.toList = false) :
    Calls Try.prog 8 #[.bool true, .bool n, .string wh, .string fr] w fun e w' => e = .returned (.bool (Pl.wfB true n wh.data.toList fr.data.toList)) ∧ w' = w := by
  have m1 : wh.size ≤ maxLen := by unfold maxLen; omega
  have D1 := hide d1
  clear d1
  go_enter Try.func8, Try.ntmps8
  go_wp2_with fail
  refine (isDigits_any wh _ m1).mono ?_
  rw [unhide D1]
  rintro e w' ⟨rfl, rfl⟩
  go_wp2_with fail
  go_ret
  exact ⟨ret_bool (by unfold Pl.wfB; rw [unhide D1]; rfl), rfl⟩

set_option maxHeartbeats 1000000 in
theorem wf_d2 (n : Bool) (wh fr : ByteArray) (w : World) (s1 : wh.size ≤ 65536) (s2 : fr.size ≤ 65536) (d1 : Pl.digB wh.data.toList = true) (d2 : Pl.digB fr.data.toList = false) :
    Calls Try.prog 8 #[.bool true, .bool n, .string wh, .string fr] w fun e w' => e = .returned (.bool (Pl.wfB true n wh.data.toList fr.data.toList)) ∧ w' = w := by
  have m1 : wh.size ≤ maxLen := by unfold maxLen; omega
  have m2 : fr.size ≤ maxLen := by unfold maxLen; omega
  have D1 := hide d1; have D2 := hide d2
  clear d1 d2
  go_enter Try.func8, Try.ntmps8
  go_wp2_with fail
  refine (isDigits_any wh _ m1).mono ?_
  rw [unhide D1]
  rintro e w' ⟨rfl, rfl⟩
  go_wp2_with fail
  refine (isDigits_any fr _ m2).mono ?_
  rw [unhide D2]
  rintro e w' ⟨rfl, rfl⟩
  go_wp2_with fail
  go_ret
  exact ⟨ret_bool (by unfold Pl.wfB; rw [unhide D1, unhide D2]; rfl), rfl⟩

theorem pos_of_head0 (s : ByteArray) (h : Pl.head0 s.data.toList = true) : 0 < s.size := by
  rcases Nat.eq_zero_or_pos s.size with p | p
  · rw [head0_none s p] at h; cases h
  · exact p
theorem pos_of_last0 (s : ByteArray) (h : Pl.last0 s.data.toList = true) : 0 < s.size := by
  rcases Nat.eq_zero_or_pos s.size with p | p
  · rw [last0_none s p] at h; cases h
  · exact p

set_option maxHeartbeats 1000000 in
theorem wf_z1 (n : Bool) (wh fr : ByteArray) (w : World) (s1 : wh.size ≤ 65536) (s2 : fr.size ≤ 65536) (d1 : Pl.digB wh.data.toList = true) (d2 : Pl.digB fr.data.toList = true) (z1 : Pl.head0 wh.data.toList = true) :
    Calls Try.prog 8 #[.bool true, .bool n, .string wh, .string fr] w fun e w' => e = .returned (.bool (Pl.wfB true n wh.data.toList fr.data.toList)) ∧ w' = w := by
  have m1 : wh.size ≤ maxLen := by unfold maxLen; omega
  have m2 : fr.size ≤ maxLen := by unfold maxLen; omega
  have p1 := pos_of_head0 wh z1
  have r1 : ((wh[0].toNat : Int) == 48) = true := (head0_some wh p1).symm.trans z1
  have D1 := hide d1; have D2 := hide d2; have Z1 := hide z1
  clear d1 d2 z1
  go_enter Try.func8, Try.ntmps8
  go_wp2_with fail
  refine (isDigits_any wh _ m1).mono ?_
  rw [unhide D1]
  rintro e w' ⟨rfl, rfl⟩
  go_wp2_with fail
  refine (isDigits_any fr _ m2).mono ?_
  rw [unhide D2]
  rintro e w' ⟨rfl, rfl⟩
  go_wp2_with fail
  go_ret
  exact ⟨ret_bool (by unfold Pl.wfB; rw [unhide D1, unhide D2, unhide Z1]; rfl), rfl⟩

set_option maxHeartbeats 1000000 in
theorem wf_z2 (n : Bool) (wh fr : ByteArray) (w : World) (s1 : wh.size ≤ 65536) (s2 : fr.size ≤ 65536) (d1 : Pl.digB wh.data.toList = true) (d2 : Pl.digB fr.data.toList = true) (z1 : Pl.head0 wh.data.toList = false) (z2 : Pl.last0 fr.data.toList = true) :
    Calls Try.prog 8 #[.bool true, .bool n, .string wh, .string fr] w fun e w' => e = .returned (.bool (Pl.wfB true n wh.data.toList fr.data.toList)) ∧ w' = w := by
  have m1 : wh.size ≤ maxLen := by unfold maxLen; omega
  have m2 : fr.size ≤ maxLen := by unfold maxLen; omega
  have p2 := pos_of_last0 fr z2
  have r2 : ((fr[fr.size - 1].toNat : Int) == 48) = true := (last0_some fr p2).symm.trans z2
  have D1 := hide d1; have D2 := hide d2; have Z1 := hide z1; have Z2 := hide z2
  clear d1 d2 z1 z2
  rcases Nat.eq_zero_or_pos wh.size with p1 | p1
  all_goals
    try have r1 : ((wh[0].toNat : Int) == 48) = false := (head0_some wh p1).symm.trans (unhide Z1)
    go_enter Try.func8, Try.ntmps8
    go_wp2_with fail
    refine (isDigits_any wh _ m1).mono ?_
    rw [unhide D1]
    rintro e w' ⟨rfl, rfl⟩
    go_wp2_with fail
    refine (isDigits_any fr _ m2).mono ?_
    rw [unhide D2]
    rintro e w' ⟨rfl, rfl⟩
    go_wp2_with fail
    go_ret
    exact ⟨ret_bool (by unfold Pl.wfB; rw [unhide D1, unhide D2, unhide Z1, unhide Z2]; rfl), rfl⟩

/-- wellFormedEnd. -/
theorem wf_any (b n : Bool) (wh fr : ByteArray) (w : World) (s1 : wh.size ≤ 65536) (s2 : fr.size ≤ 65536) :
    Calls Try.prog 8 #[.bool b, .bool n, .string wh, .string fr] w fun e w' => e = .returned (.bool (Pl.wfB b n wh.data.toList fr.data.toList)) ∧ w' = w := by
  cases b
  · exact wf_unb n wh fr w
  · cases d1 : Pl.digB wh.data.toList
    · exact wf_d1 n wh fr w s1 d1
    · cases d2 : Pl.digB fr.data.toList
      · exact wf_d2 n wh fr w s1 s2 d1 d2
      · cases z1 : Pl.head0 wh.data.toList
        · cases z2 : Pl.last0 fr.data.toList
          · exact wf_end n wh fr w s1 s2 d1 d2 z1 z2
          · exact wf_z2 n wh fr w s1 s2 d1 d2 z1 z2
        · exact wf_z1 n wh fr w s1 s2 d1 d2 z1

end Go.Proofs.Qxb6614662a
