import Derived.Test.Qxb6615473aFinal
namespace Go.Proofs.Qxb6615473a
open Go.RowKit Go.Maps
set_option linter.unusedVariables false

theorem drawn0 (w : World) : Hid (∃ q, w = w.drewN q) := hide ⟨0, rfl⟩
theorem bytes_eq {a b : ByteArray} (h : (a.toList == b.toList) = true) : a = b := by
  have h' : a.toList = b.toList := by simpa using h
  rw [ByteArray.toList_eq, ByteArray.toList_eq] at h'
  exact krs_inj (by unfold krs; rw [h'])
theorem dist_no (t : List UInt8) (E : Nat → Ev) (i : Nat) (h : isT t (E i) = false ∨ cntR t E (E i).rs i ≠ 0) : dist t E (i + 1) = dist t E i := by
  rw [dist, if_neg]
  rintro ⟨a, b⟩
  rcases h with h | h
  · rw [a] at h; cases h
  · exact h b
theorem dist_yes (t : List UInt8) (E : Nat → Ev) (i : Nat) (h : isT t (E i) = true) (h2 : cntR t E (E i).rs i = 0) : dist t E (i + 1) = dist t E i + 1 := by
  rw [dist, if_pos ⟨h, h2⟩]
theorem cR_no (t : List UInt8) (E : Nat → Ev) (r : ByteArray) (j i : Nat) (h : isT t (E j) = false ∨ (E j).rs ≠ r) : cntR t E r (j + 1) = cntR t E r j ∧ cntR t E r (min (j + 1) i) = cntR t E r (min j i) := by
  have e : cntR t E r (j + 1) = cntR t E r j := by
    rw [cntR, if_neg]
    rintro ⟨a, b⟩
    rcases h with h | h
    · rw [a] at h; cases h
    · exact h b
  refine ⟨e, ?_⟩
  by_cases c : j < i
  · rw [show min (j + 1) i = j + 1 by omega, show min j i = j by omega, e]
  · rw [show min (j + 1) i = i by omega, show min j i = i by omega]
theorem cR_yes (t : List UInt8) (E : Nat → Ev) (r : ByteArray) (j i : Nat) (h : isT t (E j) = true) (h2 : (E j).rs = r) : cntR t E r (j + 1) = cntR t E r j + 1 ∧ (j < i → false = (cntR t E r (min (j + 1) i) == 0)) ∧ (¬ j < i → cntR t E r (min (j + 1) i) = cntR t E r (min j i)) := by
  have e : cntR t E r (j + 1) = cntR t E r j + 1 := by rw [cntR, if_pos ⟨h, h2⟩]
  refine ⟨e, fun c => ?_, fun c => ?_⟩
  · rw [show min (j + 1) i = j + 1 by omega, e]; rfl
  · rw [show min (j + 1) i = i by omega, show min j i = i by omega]

set_option maxRecDepth 20000 in
set_option maxHeartbeats 4000000 in
theorem reasons_closed (ao : Option Addr) (base b N cap M : Nat) (E : Nat → Ev) (S : St) (w : World) (h : EvAll w ao N E) (hN : N ≤ 4096) (hcv : Cv base w b M S) (ht : Tal tClosed E N S.closed) (hrs : ∀ i, i < N → (E i).rs.size ≤ 1048576) :
    Calls Try.prog 24 #[.pointer (some ⟨b, 0, none⟩), .slice ao N cap, .string { data := #[67, 111, 110, 110, 101, 99, 116, 105, 111, 110, 67, 108, 111, 115, 101, 100] }, .bool true] w fun e w' => e = .returned (.bool true) ∧ ∃ q, w' = w.drewN q := by
  have HEV := hide h
  have HCV := hide hcv
  have HT := hide ht
  have HRS := hide hrs
  clear h hcv ht hrs
  go_enter Try.func24, Try.ntmps24
  go_wp2_with fail
  go_loopw [9, 10] (fun x y wr => ∃ i dc : Nat, i ≤ N ∧ dc ≤ i ∧ x = .int .i64 (dc : Int) ∧ y = .int .i64 (i : Int) ∧ Hid (dc = dist tClosed E i) ∧ Hid (∃ q, wr = w.drewN q)) (fun _ y _ => N - (intOf y).toNat)
  case atStart => exact ⟨0, 0, Nat.zero_le _, Nat.le_refl _, rfl, rfl, hide rfl, drawn0 w⟩
  case round =>
    obtain ⟨i, dc, hi, hdc, rfl, rfl, hd, hq⟩ := hrel
    by_cases hlt : i < N
    · have hlt2 : (i : Int) < (N : Int) := by omega
      obtain ⟨bb, off, rfl, hbb, he⟩ := ((unhide HEV).drawn hq).2 i hlt
      obtain ⟨c0, c1, c2, c3, wi, wd, _, _⟩ := he
      cases q1 : ((E i).ty.toList == [67, 111, 110, 110, 101, 99, 116, 105, 111, 110, 67, 108, 111, 115, 101, 100])
      · have hs := hide (dist_no tClosed E i (Or.inl q1))
        go_wp2_with fail
        refine ⟨⟨i + 1, dc, by omega, by omega, rfl, by go_num, hide (by rw [unhide hs]; exact unhide hd), hq⟩, ?_⟩
        simp [intOf]; omega
      · have hrl := unhide HRS i hlt
        have HC : ∀ wq : World, Hid ((∃ q, wq = w.drewN q) → Calls Try.prog 35 #[.pointer (some ⟨b, 0, none⟩), .string (E i).rs] wq fun e w' => e = .returned (.int .i64 ((cntR tClosed E (E i).rs N : Nat) : Int)) ∧ wq = w') := fun wq => hide (fun hh => by
          obtain ⟨q, rfl⟩ := hh
          obtain ⟨r, g1, g2⟩ := ((unhide HCV).drewN q).closed (E i).rs (by unfold maxLen; omega) _ ((unhide HT).val (E i).rs)
          exact closed_get b r (E i).rs _ _ g1 g2)
        go_wp2_with fail
        obtain ⟨wo, hwo⟩ : ∃ wo, wo = wr := ⟨_, rfl⟩
        subst hwo
        go_loopw [11, 12, 13] (fun x y z wr => ∃ (j c : Nat) (f : Bool), j ≤ N ∧ c ≤ j ∧ x = .int .i64 (c : Int) ∧ y = .bool f ∧ z = .int .i64 (j : Int) ∧ Hid (c = cntR tClosed E (E i).rs j ∧ f = (cntR tClosed E (E i).rs (min j i) == 0)) ∧ Hid (∃ q, wr = w.drewN q)) (fun _ _ z _ => N - (intOf z).toNat)
        case atStart => exact ⟨0, 0, true, Nat.zero_le _, Nat.le_refl _, rfl, rfl, rfl, hide ⟨rfl, by simp [cntR]⟩, hq⟩
        case round =>
          obtain ⟨j, c, f, hj, hc, rfl, rfl, rfl, hcc, hq2⟩ := hrel
          by_cases hjlt : j < N
          · have hjlt2 : (j : Int) < (N : Int) := by omega
            obtain ⟨bb', off', hao, hbb', he⟩ := ((unhide HEV).drawn hq2).2 j hjlt
            simp only [Option.some.injEq, Addr.mk.injEq, and_true] at hao
            obtain ⟨rfl, rfl⟩ := hao
            obtain ⟨c0, c1, c2, c3, wi, wd, _, _⟩ := he
            obtain ⟨bb', off', hao, hbb', he⟩ := ((unhide HEV).drawn hq2).2 i hlt
            simp only [Option.some.injEq, Addr.mk.injEq, and_true] at hao
            obtain ⟨rfl, rfl⟩ := hao
            obtain ⟨f0, f1, f2, f3, _, _, _, _⟩ := he
            cases q2 : ((E j).ty.toList == [67, 111, 110, 110, 101, 99, 116, 105, 111, 110, 67, 108, 111, 115, 101, 100])
            · have hs := hide (cR_no tClosed E (E i).rs j i (Or.inl q2))
              go_wp2_with fail
              go_quiet (fail)
              go_wp2_with fail
              refine ⟨⟨j + 1, c, f, by omega, by omega, rfl, rfl, by go_num, hide ⟨by rw [(unhide hs).1]; exact (unhide hcc).1, by rw [(unhide hs).2]; exact (unhide hcc).2⟩, drawn_more hq2 _⟩, ?_⟩
              simp [intOf]; omega
            · cases q3 : ((E j).rs.toList == (E i).rs.toList)
              · have hs := hide (cR_no tClosed E (E i).rs j i (Or.inr (fun e => by rw [e] at q3; simp at q3)))
                go_wp2_with fail
                go_quiet (fail)
                go_wp2_with fail
                refine ⟨⟨j + 1, c, f, by omega, by omega, rfl, rfl, by go_num, hide ⟨by rw [(unhide hs).1]; exact (unhide hcc).1, by rw [(unhide hs).2]; exact (unhide hcc).2⟩, drawn_more hq2 _⟩, ?_⟩
                simp [intOf]; omega
              · have hs := hide (cR_yes tClosed E (E i).rs j i q2 (bytes_eq q3))
                by_cases hji : (j : Int) < (i : Int)
                · go_wp2_with fail
                  go_quiet (fail)
                  go_wp2_with fail
                  refine ⟨⟨j + 1, c + 1, false, by omega, by omega, by go_num, rfl, by go_num, hide ⟨by rw [(unhide hs).1, (unhide hcc).1], (unhide hs).2.1 (by omega)⟩, drawn_more hq2 _⟩, ?_⟩
                  simp [intOf]; omega
                · go_wp2_with fail
                  go_quiet (fail)
                  go_wp2_with fail
                  refine ⟨⟨j + 1, c + 1, f, by omega, by omega, by go_num, rfl, by go_num, hide ⟨by rw [(unhide hs).1, (unhide hcc).1], by rw [(unhide hs).2.2 (by omega)]; exact (unhide hcc).2⟩, drawn_more hq2 _⟩, ?_⟩
                  simp [intOf]; omega
          · have hjge : ¬ (j : Int) < (N : Int) := by omega
            obtain rfl : j = N := by omega
            obtain ⟨r1, r2⟩ := unhide hcc
            rw [show min j i = i by omega] at r2
            obtain ⟨bb', off', hao, hbb', he⟩ := ((unhide HEV).drawn hq2).2 i hlt
            simp only [Option.some.injEq, Addr.mk.injEq, and_true] at hao
            obtain ⟨rfl, rfl⟩ := hao
            obtain ⟨f0, f1, f2, f3, _, _, _, _⟩ := he
            have HC' := hide (unhide (HC wr) (unhide hq2))
            rw [← r1] at HC'
            have R2 := hide r2
            clear r1 r2 hcc HC
            cases f
            · have hs := hide (dist_no tClosed E i (Or.inr (by have := unhide R2; simpa using this.symm)))
              go_wp2_with fail
              refine (unhide HC').mono ?_
              rintro e w4 ⟨rfl, rfl⟩
              go_wp2_with fail
              go_roundw
              case rel => exact ⟨i + 1, dc, by omega, by omega, rfl, by go_num, hide (by rw [unhide hs]; exact unhide hd), hq2⟩
              case measure => simp [intOf]; omega
            · have hs := hide (dist_yes tClosed E i q1 (by have := unhide R2; simpa using this.symm))
              go_wp2_with fail
              refine (unhide HC').mono ?_
              rintro e w4 ⟨rfl, rfl⟩
              go_wp2_with fail
              go_roundw
              case rel => exact ⟨i + 1, dc + 1, by omega, by omega, by go_num, by go_num, hide (by rw [unhide hs, unhide hd]), hq2⟩
              case measure => simp [intOf]; omega
    · have hge : ¬ (i : Int) < (N : Int) := by omega
      obtain rfl : i = N := by omega
      have HL : Hid (Calls Try.prog 37 #[.pointer (some ⟨b, 0, none⟩)] wr fun e w' => e = .returned (.int .i64 (dc : Int)) ∧ wr = w') := hide (by
        obtain ⟨q, rfl⟩ := hq
        obtain ⟨r, g1, g2⟩ := ((unhide HCV).drewN q).closedLen
        rw [(unhide HT).size, ← unhide hd] at g2
        exact closed_len b r _ _ g1 g2)
      go_wp2_with fail
      refine (unhide HL).mono ?_
      rintro e w4 ⟨rfl, rfl⟩
      go_wp2_with fail
      go_ret
      exact ⟨rfl, unhide hq⟩

set_option maxRecDepth 20000 in
set_option maxHeartbeats 4000000 in
theorem reasons_failed (ao : Option Addr) (base b N cap M : Nat) (E : Nat → Ev) (S : St) (w : World) (h : EvAll w ao N E) (hN : N ≤ 4096) (hcv : Cv base w b M S) (ht : Tal tFailed E N S.failed) (hrs : ∀ i, i < N → (E i).rs.size ≤ 1048576) :
    Calls Try.prog 24 #[.pointer (some ⟨b, 0, none⟩), .slice ao N cap, .string { data := #[67, 111, 110, 110, 101, 99, 116, 105, 111, 110, 67, 104, 101, 99, 107, 79, 117, 116, 70, 97, 105, 108, 101, 100] }, .bool false] w fun e w' => e = .returned (.bool true) ∧ ∃ q, w' = w.drewN q := by
  have HEV := hide h
  have HCV := hide hcv
  have HT := hide ht
  have HRS := hide hrs
  clear h hcv ht hrs
  go_enter Try.func24, Try.ntmps24
  go_wp2_with fail
  go_loopw [9, 10] (fun x y wr => ∃ i dc : Nat, i ≤ N ∧ dc ≤ i ∧ x = .int .i64 (dc : Int) ∧ y = .int .i64 (i : Int) ∧ Hid (dc = dist tFailed E i) ∧ Hid (∃ q, wr = w.drewN q)) (fun _ y _ => N - (intOf y).toNat)
  case atStart => exact ⟨0, 0, Nat.zero_le _, Nat.le_refl _, rfl, rfl, hide rfl, drawn0 w⟩
  case round =>
    obtain ⟨i, dc, hi, hdc, rfl, rfl, hd, hq⟩ := hrel
    by_cases hlt : i < N
    · have hlt2 : (i : Int) < (N : Int) := by omega
      obtain ⟨bb, off, rfl, hbb, he⟩ := ((unhide HEV).drawn hq).2 i hlt
      obtain ⟨c0, c1, c2, c3, wi, wd, _, _⟩ := he
      cases q1 : ((E i).ty.toList == [67, 111, 110, 110, 101, 99, 116, 105, 111, 110, 67, 104, 101, 99, 107, 79, 117, 116, 70, 97, 105, 108, 101, 100])
      · have hs := hide (dist_no tFailed E i (Or.inl q1))
        go_wp2_with fail
        refine ⟨⟨i + 1, dc, by omega, by omega, rfl, by go_num, hide (by rw [unhide hs]; exact unhide hd), hq⟩, ?_⟩
        simp [intOf]; omega
      · have hrl := unhide HRS i hlt
        have HC : ∀ wq : World, Hid ((∃ q, wq = w.drewN q) → Calls Try.prog 36 #[.pointer (some ⟨b, 0, none⟩), .string (E i).rs] wq fun e w' => e = .returned (.int .i64 ((cntR tFailed E (E i).rs N : Nat) : Int)) ∧ wq = w') := fun wq => hide (fun hh => by
          obtain ⟨q, rfl⟩ := hh
          obtain ⟨r, g1, g2⟩ := ((unhide HCV).drewN q).failed (E i).rs (by unfold maxLen; omega) _ ((unhide HT).val (E i).rs)
          exact failed_get b r (E i).rs _ _ g1 g2)
        go_wp2_with fail
        obtain ⟨wo, hwo⟩ : ∃ wo, wo = wr := ⟨_, rfl⟩
        subst hwo
        go_loopw [11, 12, 13] (fun x y z wr => ∃ (j c : Nat) (f : Bool), j ≤ N ∧ c ≤ j ∧ x = .int .i64 (c : Int) ∧ y = .bool f ∧ z = .int .i64 (j : Int) ∧ Hid (c = cntR tFailed E (E i).rs j ∧ f = (cntR tFailed E (E i).rs (min j i) == 0)) ∧ Hid (∃ q, wr = w.drewN q)) (fun _ _ z _ => N - (intOf z).toNat)
        case atStart => exact ⟨0, 0, true, Nat.zero_le _, Nat.le_refl _, rfl, rfl, rfl, hide ⟨rfl, by simp [cntR]⟩, hq⟩
        case round =>
          obtain ⟨j, c, f, hj, hc, rfl, rfl, rfl, hcc, hq2⟩ := hrel
          by_cases hjlt : j < N
          · have hjlt2 : (j : Int) < (N : Int) := by omega
            obtain ⟨bb', off', hao, hbb', he⟩ := ((unhide HEV).drawn hq2).2 j hjlt
            simp only [Option.some.injEq, Addr.mk.injEq, and_true] at hao
            obtain ⟨rfl, rfl⟩ := hao
            obtain ⟨c0, c1, c2, c3, wi, wd, _, _⟩ := he
            obtain ⟨bb', off', hao, hbb', he⟩ := ((unhide HEV).drawn hq2).2 i hlt
            simp only [Option.some.injEq, Addr.mk.injEq, and_true] at hao
            obtain ⟨rfl, rfl⟩ := hao
            obtain ⟨f0, f1, f2, f3, _, _, _, _⟩ := he
            cases q2 : ((E j).ty.toList == [67, 111, 110, 110, 101, 99, 116, 105, 111, 110, 67, 104, 101, 99, 107, 79, 117, 116, 70, 97, 105, 108, 101, 100])
            · have hs := hide (cR_no tFailed E (E i).rs j i (Or.inl q2))
              go_wp2_with fail
              go_quiet (fail)
              go_wp2_with fail
              refine ⟨⟨j + 1, c, f, by omega, by omega, rfl, rfl, by go_num, hide ⟨by rw [(unhide hs).1]; exact (unhide hcc).1, by rw [(unhide hs).2]; exact (unhide hcc).2⟩, drawn_more hq2 _⟩, ?_⟩
              simp [intOf]; omega
            · cases q3 : ((E j).rs.toList == (E i).rs.toList)
              · have hs := hide (cR_no tFailed E (E i).rs j i (Or.inr (fun e => by rw [e] at q3; simp at q3)))
                go_wp2_with fail
                go_quiet (fail)
                go_wp2_with fail
                refine ⟨⟨j + 1, c, f, by omega, by omega, rfl, rfl, by go_num, hide ⟨by rw [(unhide hs).1]; exact (unhide hcc).1, by rw [(unhide hs).2]; exact (unhide hcc).2⟩, drawn_more hq2 _⟩, ?_⟩
                simp [intOf]; omega
              · have hs := hide (cR_yes tFailed E (E i).rs j i q2 (bytes_eq q3))
                by_cases hji : (j : Int) < (i : Int)
                · go_wp2_with fail
                  go_quiet (fail)
                  go_wp2_with fail
                  refine ⟨⟨j + 1, c + 1, false, by omega, by omega, by go_num, rfl, by go_num, hide ⟨by rw [(unhide hs).1, (unhide hcc).1], (unhide hs).2.1 (by omega)⟩, drawn_more hq2 _⟩, ?_⟩
                  simp [intOf]; omega
                · go_wp2_with fail
                  go_quiet (fail)
                  go_wp2_with fail
                  refine ⟨⟨j + 1, c + 1, f, by omega, by omega, by go_num, rfl, by go_num, hide ⟨by rw [(unhide hs).1, (unhide hcc).1], by rw [(unhide hs).2.2 (by omega)]; exact (unhide hcc).2⟩, drawn_more hq2 _⟩, ?_⟩
                  simp [intOf]; omega
          · have hjge : ¬ (j : Int) < (N : Int) := by omega
            obtain rfl : j = N := by omega
            obtain ⟨r1, r2⟩ := unhide hcc
            rw [show min j i = i by omega] at r2
            obtain ⟨bb', off', hao, hbb', he⟩ := ((unhide HEV).drawn hq2).2 i hlt
            simp only [Option.some.injEq, Addr.mk.injEq, and_true] at hao
            obtain ⟨rfl, rfl⟩ := hao
            obtain ⟨f0, f1, f2, f3, _, _, _, _⟩ := he
            have HC' := hide (unhide (HC wr) (unhide hq2))
            rw [← r1] at HC'
            have R2 := hide r2
            clear r1 r2 hcc HC
            cases f
            · have hs := hide (dist_no tFailed E i (Or.inr (by have := unhide R2; simpa using this.symm)))
              go_wp2_with fail
              refine (unhide HC').mono ?_
              rintro e w4 ⟨rfl, rfl⟩
              go_wp2_with fail
              go_roundw
              case rel => exact ⟨i + 1, dc, by omega, by omega, rfl, by go_num, hide (by rw [unhide hs]; exact unhide hd), hq2⟩
              case measure => simp [intOf]; omega
            · have hs := hide (dist_yes tFailed E i q1 (by have := unhide R2; simpa using this.symm))
              go_wp2_with fail
              refine (unhide HC').mono ?_
              rintro e w4 ⟨rfl, rfl⟩
              go_wp2_with fail
              go_roundw
              case rel => exact ⟨i + 1, dc + 1, by omega, by omega, by go_num, by go_num, hide (by rw [unhide hs, unhide hd]), hq2⟩
              case measure => simp [intOf]; omega
    · have hge : ¬ (i : Int) < (N : Int) := by omega
      obtain rfl : i = N := by omega
      have HL : Hid (Calls Try.prog 38 #[.pointer (some ⟨b, 0, none⟩)] wr fun e w' => e = .returned (.int .i64 (dc : Int)) ∧ wr = w') := hide (by
        obtain ⟨q, rfl⟩ := hq
        obtain ⟨r, g1, g2⟩ := ((unhide HCV).drewN q).failedLen
        rw [(unhide HT).size, ← unhide hd] at g2
        exact failed_len b r _ _ g1 g2)
      go_wp2_with fail
      refine (unhide HL).mono ?_
      rintro e w4 ⟨rfl, rfl⟩
      go_wp2_with fail
      go_ret
      exact ⟨rfl, unhide hq⟩
end Go.Proofs.Qxb6615473a
