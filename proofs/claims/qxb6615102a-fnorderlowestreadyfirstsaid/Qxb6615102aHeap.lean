import Derived.Test.Qxb6615102aMem
namespace Go.Proofs.Qxb6615102a
open Go.RowKit
set_option linter.unusedVariables false

theorem HeapAt.drawn {w w1 : World} {H : Nat} {v : Value} {zs : List Int} (h : HeapAt w H v zs) (hq : ∃ q, w1 = w.drewN q) : HeapAt w1 H v zs := by
  obtain ⟨q, rfl⟩ := hq; exact h.drewN q
theorem Frm.drawn {S : Nat → Prop} {a b c : World} (h : Frm S a b) (hq : ∃ q, c = b.drewN q) : Frm S a c := by
  obtain ⟨q, rfl⟩ := hq; exact h.drewN q

/-- What a call on the heap leaves: it holds zs', ordered. -/
def UpPost (H : Nat) (v : Value) (zs : List Int) (w : World) (e : Ending) (w' : World) : Prop :=
  e = .returned (.tuple #[]) ∧ ∃ zs', HeapAt w' H v zs' ∧ zs'.Perm zs ∧ Hp zs' zs'.length ∧ Frm (Tch H v) w w'

set_option maxHeartbeats 1000000 in
theorem up_any (H : Nat) (v : Value) (zs : List Int) (j : Nat) (w : World) (h : HeapAt w H v zs) (hl : zs.length ≤ 65537) (hj : j < zs.length) (hu : UpOK zs j) :
    Calls Try.prog 17 #[.iface 31 (.pointer (some ⟨H, 0, none⟩)), .int .i64 j] w fun e w' => UpPost H v zs w e w' := by
  have HU := hide hu
  have HH := hide h
  clear hu h
  go_enter Try.func17, Try.ntmps17
  go_wp2_with fail
  go_loopw [1] (fun x wr => ∃ (k : Nat) (ys : List Int), k < ys.length ∧ ys.length ≤ 65537 ∧ x = .int .i64 k ∧ Hid (ys.Perm zs) ∧ Hid (HeapAt wr H v ys) ∧ Hid (UpOK ys k) ∧ Hid (Frm (Tch H v) w wr)) (fun x _ => (intOf x).toNat)
  case atStart => exact ⟨j, zs, hj, hl, rfl, List.Perm.refl _, HH, HU, Frm.refl _ _⟩
  case round =>
    obtain ⟨k, ys, hk, hyl, rfl, hp, ha, hu, hf⟩ := hrel
    rcases Nat.eq_zero_or_pos k with h0 | h0
    · subst h0
      go_wp2_with fail
      go_end0
      exact ⟨rfl, ys, unhide ha, unhide hp, up_stop0 ys (unhide hu), unhide hf⟩
    · have hpk := par_lt k h0
      have e1 : ((k : Int) - 1) / 2 = (par k : Int) := by unfold par; omega
      have hk1 : (1 : Int) ≤ (k : Int) := by omega
      have hne : ((par k : Int) == (k : Int)) = false := beq_eq_false_iff_ne.2 (by omega)
      have hml := m_less ⟨H, 0, none⟩ v wr (unhide ha).cell
      have CL := hide (hless_any H v ys k (par k) wr (unhide ha) hyl hk (by omega))
      by_cases hlt : ys.getD k 0 < ys.getD (par k) 0
      · have HL := hide hlt
        have hd : decide (ys.getD k 0 < ys.getD (par k) 0) = true := decide_eq_true hlt
        have HD := hide hd
        clear hlt hd
        go_wp2_with fail
        refine (unhide CL).mono ?_
        rw [unhide HD]
        rintro e w1 ⟨rfl, q, rfl⟩
        have hms := m_swap ⟨H, 0, none⟩ v (wr.drewN q) ((unhide ha).drewN q).cell
        have CS := hide (hswap_any H v ys (par k) k (wr.drewN q) ((unhide ha).drewN q) hyl (by omega) hk)
        go_wp2_with fail
        refine (unhide CS).mono ?_
        rintro e w2 ⟨rfl, ha2, hf2⟩
        have HA2 := hide ha2
        have HF2 := hide hf2
        clear ha2 hf2
        go_wp2_with fail
        go_roundw
        case rel =>
          exact ⟨par k, sw ys (par k) k, by rw [sw_len]; omega, by rw [sw_len]; exact hyl, rfl, (sw_perm ys _ _ (by omega) hk).trans (unhide hp), HA2, up_step ys k h0 hk (unhide hu) (unhide HL), ((unhide hf).drewN q).trans (unhide HF2)⟩
        case measure => simp [intOf]; omega
      · have hd : decide (ys.getD k 0 < ys.getD (par k) 0) = false := decide_eq_false hlt
        have HL := hide hlt
        have HD := hide hd
        clear hlt hd
        go_wp2_with fail
        refine (unhide CL).mono ?_
        rw [unhide HD]
        rintro e w1 ⟨rfl, q, rfl⟩
        go_wp2_with fail
        go_end0
        exact ⟨rfl, ys, (unhide ha).drewN q, unhide hp, up_stop ys k (unhide hu) (Int.not_lt.2 (unhide HL)), (unhide hf).drewN q⟩

/-- What 'down' leaves: the first n are ordered, the one behind them stands. -/
def DnPost (H : Nat) (v : Value) (zs : List Int) (n : Nat) (w : World) (e : Ending) (w' : World) : Prop :=
  (∃ r : Bool, e = .returned (.bool r)) ∧ ∃ zs', HeapAt w' H v zs' ∧ zs'.Perm zs ∧ zs'.getD n 0 = zs.getD n 0 ∧ Hp zs' n ∧ Frm (Tch H v) w w'

set_option maxHeartbeats 4000000 in
theorem down_any (H : Nat) (v : Value) (zs : List Int) (n : Nat) (w : World) (h : HeapAt w H v zs) (hl : zs.length ≤ 65537) (hn : zs.length = n + 1) (hu : DownOK zs n 0) :
    Calls Try.prog 18 #[.iface 31 (.pointer (some ⟨H, 0, none⟩)), .int .i64 0, .int .i64 n] w fun e w' => DnPost H v zs n w e w' := by
  have HU := hide hu
  have HH := hide h
  have HN := hide hn
  have hn1 : n ≤ 65536 := by omega
  clear hu h hn
  go_enter Try.func18, Try.ntmps18
  go_wp2_with fail
  go_loopw [7] (fun x wr => ∃ (i : Nat) (ys : List Int), i ≤ n ∧ x = .int .i64 i ∧ Hid (ys.length = n + 1) ∧ Hid (ys.Perm zs) ∧ Hid (ys.getD n 0 = zs.getD n 0) ∧ Hid (HeapAt wr H v ys) ∧ Hid (DownOK ys n i) ∧ Hid (Frm (Tch H v) w wr)) (fun x _ => n - (intOf x).toNat)
  case atStart => exact ⟨0, zs, Nat.zero_le _, rfl, HN, List.Perm.refl _, hide rfl, HH, HU, Frm.refl _ _⟩
  case round =>
    obtain ⟨i, ys, hi, rfl, hyn, hp, hlast, ha, hu, hf⟩ := hrel
    have hyl : ys.length ≤ 65537 := by have := unhide hyn; omega
    by_cases hb : n ≤ 2 * i + 1
    · have hb2 : (n : Int) ≤ 2 * (i : Int) + 1 := by omega
      go_wp2_with fail
      go_ret
      exact ⟨⟨_, rfl⟩, ys, unhide ha, unhide hp, unhide hlast, down_stop0 ys n i (unhide hu) hb, unhide hf⟩
    · obtain ⟨j1, hj1⟩ : ∃ j1, j1 = 2 * i + 1 := ⟨_, rfl⟩
      obtain ⟨j2, hj2⟩ : ∃ j2, j2 = j1 + 1 := ⟨_, rfl⟩
      have HJ1 := hide hj1
      have HJ2 := hide hj2
      have e1 : 2 * (i : Int) + 1 = (j1 : Int) := by omega
      have e2 : (j1 : Int) + 1 = (j2 : Int) := by omega
      have hb2 : (j1 : Int) < (n : Int) := by omega
      have hb4 : (0 : Int) ≤ (j1 : Int) := by omega
      have hin : i < n := by omega
      have hj1l : j1 < ys.length := by have := unhide hyn; omega
      have hpar1 : par j1 = i := by unfold par; omega
      have hpar2 : par j2 = i := by unfold par; omega
      have HP1 := hide hpar1
      have HP2 := hide hpar2
      have hkid : Hid (∀ k, 0 < k → par k = i → k = j1 ∨ k = j2) := hide (by intro k h0 hk; unfold par at hk; omega)
      clear hj1 hj2 hb hpar1 hpar2
      by_cases hb3 : (j2 : Int) < (n : Int)
      · have hj2l : j2 < ys.length := by have := unhide hyn; omega
        have hml := m_less ⟨H, 0, none⟩ v wr (unhide ha).cell
        have CL := hide (hless_any H v ys j2 j1 wr (unhide ha) hyl hj2l hj1l)
        by_cases h21 : ys.getD j2 0 < ys.getD j1 0
        · have hmin : Hid (∀ k, 0 < k → k < n → par k = i → ys.getD j2 0 ≤ ys.getD k 0) := hide (by
            intro k h0 _ hk
            rcases unhide hkid k h0 hk with rfl | rfl
            · exact Int.le_of_lt h21
            · exact Int.le_refl _)
          have HD0 := hide (decide_eq_true h21)
          clear h21
          go_wp2_with fail
          refine (unhide CL).mono ?_
          rw [unhide HD0]
          rintro e w1 ⟨rfl, hq⟩
          have HA1 := hide ((unhide ha).drawn hq)
          have HF1 := hide ((unhide hf).drawn hq)
          clear hq
          have hml2 := m_less ⟨H, 0, none⟩ v (w1) (unhide HA1).cell
          have CL2 := hide (hless_any H v ys j2 i (w1) (unhide HA1) hyl hj2l (by have := unhide hyn; omega))
          by_cases hlt : ys.getD j2 0 < ys.getD i 0
          · have HL := hide hlt
            have HD := hide (decide_eq_true hlt)
            clear hlt
            go_wp2_with fail
            refine (unhide CL2).mono ?_
            rw [unhide HD]
            rintro e w2 ⟨rfl, hq2⟩
            have HA2 := hide ((unhide HA1).drawn hq2)
            have HF2 := hide ((unhide HF1).drawn hq2)
            clear hq2
            have hms := m_swap ⟨H, 0, none⟩ v w2 (unhide HA2).cell
            have CS := hide (hswap_any H v ys i j2 w2 (unhide HA2) hyl (by have := unhide hyn; omega) hj2l)
            go_wp2_with fail
            refine (unhide CS).mono ?_
            rintro e w3 ⟨rfl, ha3, hf3⟩
            have HA3 := hide ha3
            have HF3 := hide hf3
            clear ha3 hf3
            go_wp2_with fail
            go_roundw
            case rel =>
              refine ⟨j2, sw ys i j2, by have := unhide HJ1; have := unhide HJ2; omega, rfl, by rw [sw_len]; exact unhide hyn, (sw_perm ys _ _ (by have := unhide hyn; omega) hj2l).trans (unhide hp), ?_, HA3, down_step ys n i j2 (by have := unhide hyn; omega) (by have := unhide HJ1; have := unhide HJ2; omega) (by have := unhide HJ1; have := unhide HJ2; omega) (unhide HP2) (unhide hu) (unhide hmin) (unhide HL), (unhide HF2).trans (unhide HF3)⟩
              show _ = _
              rw [sw_get _ _ _ _ (by have := unhide hyn; omega) hj2l, if_neg (by have := unhide HJ1; have := unhide HJ2; omega), if_neg (by omega)]
              exact unhide hlast
            case measure => simp [intOf]; have := unhide HJ1; have := unhide HJ2; omega
          · have HL := hide hlt
            have HD := hide (decide_eq_false hlt)
            clear hlt
            go_wp2_with fail
            refine (unhide CL2).mono ?_
            rw [unhide HD]
            rintro e w2 ⟨rfl, hq2⟩
            have HA2 := hide ((unhide HA1).drawn hq2)
            have HF2 := hide ((unhide HF1).drawn hq2)
            clear hq2
            go_wp2_with fail
            go_ret
            exact ⟨⟨_, rfl⟩, ys, unhide HA2, unhide hp, unhide hlast, down_stop ys n i j2 (unhide hu) (unhide hmin) (Int.not_lt.2 (unhide HL)), unhide HF2⟩
        · have hmin : Hid (∀ k, 0 < k → k < n → par k = i → ys.getD j1 0 ≤ ys.getD k 0) := hide (by
            intro k h0 _ hk
            rcases unhide hkid k h0 hk with rfl | rfl
            · exact Int.le_refl _
            · exact Int.not_lt.1 h21)
          have HD0 := hide (decide_eq_false h21)
          clear h21
          go_wp2_with fail
          refine (unhide CL).mono ?_
          rw [unhide HD0]
          rintro e w1 ⟨rfl, hq⟩
          have HA1 := hide ((unhide ha).drawn hq)
          have HF1 := hide ((unhide hf).drawn hq)
          clear hq
          have hml2 := m_less ⟨H, 0, none⟩ v (w1) (unhide HA1).cell
          have CL2 := hide (hless_any H v ys j1 i (w1) (unhide HA1) hyl hj1l (by have := unhide hyn; omega))
          by_cases hlt : ys.getD j1 0 < ys.getD i 0
          · have HL := hide hlt
            have HD := hide (decide_eq_true hlt)
            clear hlt
            go_wp2_with fail
            refine (unhide CL2).mono ?_
            rw [unhide HD]
            rintro e w2 ⟨rfl, hq2⟩
            have HA2 := hide ((unhide HA1).drawn hq2)
            have HF2 := hide ((unhide HF1).drawn hq2)
            clear hq2
            have hms := m_swap ⟨H, 0, none⟩ v w2 (unhide HA2).cell
            have CS := hide (hswap_any H v ys i j1 w2 (unhide HA2) hyl (by have := unhide hyn; omega) hj1l)
            go_wp2_with fail
            refine (unhide CS).mono ?_
            rintro e w3 ⟨rfl, ha3, hf3⟩
            have HA3 := hide ha3
            have HF3 := hide hf3
            clear ha3 hf3
            go_wp2_with fail
            go_roundw
            case rel =>
              refine ⟨j1, sw ys i j1, by have := unhide HJ1; have := unhide HJ2; omega, rfl, by rw [sw_len]; exact unhide hyn, (sw_perm ys _ _ (by have := unhide hyn; omega) hj1l).trans (unhide hp), ?_, HA3, down_step ys n i j1 (by have := unhide hyn; omega) (by have := unhide HJ1; have := unhide HJ2; omega) (by have := unhide HJ1; have := unhide HJ2; omega) (unhide HP1) (unhide hu) (unhide hmin) (unhide HL), (unhide HF2).trans (unhide HF3)⟩
              show _ = _
              rw [sw_get _ _ _ _ (by have := unhide hyn; omega) hj1l, if_neg (by have := unhide HJ1; have := unhide HJ2; omega), if_neg (by omega)]
              exact unhide hlast
            case measure => simp [intOf]; have := unhide HJ1; have := unhide HJ2; omega
          · have HL := hide hlt
            have HD := hide (decide_eq_false hlt)
            clear hlt
            go_wp2_with fail
            refine (unhide CL2).mono ?_
            rw [unhide HD]
            rintro e w2 ⟨rfl, hq2⟩
            have HA2 := hide ((unhide HA1).drawn hq2)
            have HF2 := hide ((unhide HF1).drawn hq2)
            clear hq2
            go_wp2_with fail
            go_ret
            exact ⟨⟨_, rfl⟩, ys, unhide HA2, unhide hp, unhide hlast, down_stop ys n i j1 (unhide hu) (unhide hmin) (Int.not_lt.2 (unhide HL)), unhide HF2⟩
      · have hmin : Hid (∀ k, 0 < k → k < n → par k = i → ys.getD j1 0 ≤ ys.getD k 0) := hide (by
          intro k h0 hkn hk
          rcases unhide hkid k h0 hk with rfl | rfl
          · exact Int.le_refl _
          · omega)
        have hml2 := m_less ⟨H, 0, none⟩ v (wr) (unhide ha).cell
        have CL2 := hide (hless_any H v ys j1 i (wr) (unhide ha) hyl hj1l (by have := unhide hyn; omega))
        by_cases hlt : ys.getD j1 0 < ys.getD i 0
        · have HL := hide hlt
          have HD := hide (decide_eq_true hlt)
          clear hlt
          go_wp2_with fail
          refine (unhide CL2).mono ?_
          rw [unhide HD]
          rintro e w2 ⟨rfl, hq2⟩
          have HA2 := hide ((unhide ha).drawn hq2)
          have HF2 := hide ((unhide hf).drawn hq2)
          clear hq2
          have hms := m_swap ⟨H, 0, none⟩ v w2 (unhide HA2).cell
          have CS := hide (hswap_any H v ys i j1 w2 (unhide HA2) hyl (by have := unhide hyn; omega) hj1l)
          go_wp2_with fail
          refine (unhide CS).mono ?_
          rintro e w3 ⟨rfl, ha3, hf3⟩
          have HA3 := hide ha3
          have HF3 := hide hf3
          clear ha3 hf3
          go_wp2_with fail
          go_roundw
          case rel =>
            refine ⟨j1, sw ys i j1, by have := unhide HJ1; have := unhide HJ2; omega, rfl, by rw [sw_len]; exact unhide hyn, (sw_perm ys _ _ (by have := unhide hyn; omega) hj1l).trans (unhide hp), ?_, HA3, down_step ys n i j1 (by have := unhide hyn; omega) (by have := unhide HJ1; have := unhide HJ2; omega) (by have := unhide HJ1; have := unhide HJ2; omega) (unhide HP1) (unhide hu) (unhide hmin) (unhide HL), (unhide HF2).trans (unhide HF3)⟩
            show _ = _
            rw [sw_get _ _ _ _ (by have := unhide hyn; omega) hj1l, if_neg (by have := unhide HJ1; have := unhide HJ2; omega), if_neg (by omega)]
            exact unhide hlast
          case measure => simp [intOf]; have := unhide HJ1; have := unhide HJ2; omega
        · have HL := hide hlt
          have HD := hide (decide_eq_false hlt)
          clear hlt
          go_wp2_with fail
          refine (unhide CL2).mono ?_
          rw [unhide HD]
          rintro e w2 ⟨rfl, hq2⟩
          have HA2 := hide ((unhide ha).drawn hq2)
          have HF2 := hide ((unhide hf).drawn hq2)
          clear hq2
          go_wp2_with fail
          go_ret
          exact ⟨⟨_, rfl⟩, ys, unhide HA2, unhide hp, unhide hlast, down_stop ys n i j1 (unhide hu) (unhide hmin) (Int.not_lt.2 (unhide HL)), unhide HF2⟩

end Go.Proofs.Qxb6615102a
