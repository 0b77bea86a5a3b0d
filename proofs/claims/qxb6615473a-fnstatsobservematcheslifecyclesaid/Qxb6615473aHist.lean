import Derived.Test.Qxb6615473aGet
namespace Go.Proofs.Qxb6615473a
open Go.RowKit Go.Maps
set_option linter.unusedVariables false

theorem drawn_more {w wr : World} (h : Hid (∃ q, wr = w.drewN q)) (m : Nat) : Hid (∃ q, wr.drewN m = w.drewN q) := by
  obtain ⟨q, rfl⟩ := h
  exact ⟨q + m, by simp [World.drewN, Nat.add_assoc]⟩
theorem EvAll.drawn {w wr : World} {ao : Option Addr} {N : Nat} {E : Nat → Ev} (h : EvAll w ao N E) (hq : Hid (∃ q, wr = w.drewN q)) : EvAll wr ao N E := by
  obtain ⟨q, rfl⟩ := hq
  exact ⟨h.1, fun i hi => let ⟨b, off, e, hb, hc⟩ := h.2 i hi; ⟨b, off, e, hb, hc.same rfl⟩⟩
theorem below_drewN {B : Nat} {w w' : World} (h : Below B w w') (q : Nat) : Below B w (w'.drewN q) := ⟨h.os, h.tape, h.output, h.size, h.block⟩
/-- The script's state: k events are observed. -/
def Obd (w : World) (b : Nat) (E : Nat → Ev) (k : Nat) (wr : World) : Prop :=
  (Cb w.heap.size wr b 0 k (evs E k) ∨ Cz wr b (evs E k)) ∧ Below w.heap.size w wr ∧ b < wr.heap.size ∧ w.heap.size ≤ b

theorem cntO_le (E : Nat → Ev) : ∀ k, cntO E k ≤ k
  | 0 => Nat.le_refl _
  | k + 1 => by have := cntO_le E k; unfold cntO; split <;> omega
theorem bkO_le (E : Nat → Ev) (b : Nat) : ∀ k, bkO E b k ≤ k
  | 0 => Nat.le_refl _
  | k + 1 => by have := bkO_le E b k; unfold bkO; split <;> omega
theorem outStep (E : Nat → Ev) (k : Nat) (h : isOut (E k) = false) : cntO E (k + 1) = cntO E k ∧ mxO E (k + 1) = mxO E k ∧ totO E (k + 1) = totO E k := by
  simp [cntO, mxO, totO, h]
theorem inStep (E : Nat → Ev) (k : Nat) (h : isOut (E k) = true) : cntO E (k + 1) = cntO E k + 1 ∧ mxO E (k + 1) = max (mxO E k) (wt (E k)) ∧ totO E (k + 1) = min (totO E k + wt (E k)) 9223372036854775807 := by
  simp [cntO, mxO, totO, h]
theorem bk_yes (E : Nat → Ev) (m k : Nat) (h : isOut (E k) = true) (h1 : lo m ≤ wt (E k)) (h2 : wt (E k) < hi m) : bkO E m (k + 1) = bkO E m k + 1 := by
  simp [bkO, h, h1, h2]
theorem bk_no (E : Nat → Ev) (m k : Nat) (h : isOut (E k) = false ∨ wt (E k) < lo m ∨ hi m ≤ wt (E k)) : bkO E m (k + 1) = bkO E m k := by
  rw [bkO, if_neg]
  simp only [Bool.and_eq_true, decide_eq_true_eq]
  rintro ⟨a, b, c⟩
  rcases h with h | h | h
  · rw [a] at h; cases h
  · omega
  · omega
theorem lo_small (m : Nat) (h : m < 64) : lo m = m ∧ hi m = m + 1 := by unfold lo hi; rw [if_pos h, if_pos h]; exact ⟨rfl, rfl⟩
theorem lo_big (m : Nat) (h : ¬ m < 64) (h2 : m < 1888) : IntKind.u64.wrap (((m : Int) % 32 + 32) * 2 ^ (m / 32 - 1)) = ((lo m : Nat) : Int) ∧ IntKind.u64.wrap (((m : Int) % 32 + 32 + 1) * 2 ^ (m / 32 - 1)) = ((hi m : Nat) : Int) ∧ lo m < 18446744073709551616 ∧ hi m < 18446744073709551616 ∧ 32 ≤ lo m := by
  have e1 : ((lo m : Nat) : Int) = ((m : Int) % 32 + 32) * 2 ^ (m / 32 - 1) := by unfold lo; rw [if_neg h]; push_cast; rfl
  have e2 : ((hi m : Nat) : Int) = ((m : Int) % 32 + 32 + 1) * 2 ^ (m / 32 - 1) := by unfold hi; rw [if_neg h]; push_cast; rfl
  have hp : 2 ^ (m / 32 - 1) ≤ 2 ^ 57 := Nat.pow_le_pow_right (by omega) (by omega)
  have b2 : hi m ≤ 64 * 2 ^ 57 := by
    unfold hi; rw [if_neg h]
    exact Nat.mul_le_mul (by omega) hp
  have b1 : lo m ≤ hi m := by
    unfold lo hi; rw [if_neg h, if_neg h]
    exact Nat.mul_le_mul_right _ (by omega)
  have q1 : lo m < 18446744073709551616 := by omega
  have q2 : hi m < 18446744073709551616 := by omega
  rw [← e1, ← e2]
  have q3 : 32 ≤ lo m := by
    unfold lo; rw [if_neg h]
    exact Nat.mul_le_mul (n₁ := 32) (m₁ := 1) (by omega) (Nat.pow_pos (by omega))
  refine ⟨?_, ?_, q1, q2, q3⟩
  · rw [IntKind.wrap_u64]; omega
  · rw [IntKind.wrap_u64]; omega
/-- The collector's cells, whatever its maps. -/
theorem Obd.row {w wr : World} {b k : Nat} {E : Nat → Ev} (h : Obd w b E k wr) : ∃ mc mf ml : Value, RowAt wr b 50 1902 (cellsOf 0 (evs E k) mc mf ml) := by
  rcases h.1 with ⟨mc, mf, ml, a1, a2, a3, hc⟩ | ⟨e, hz⟩
  · exact ⟨_, _, _, hc.row⟩
  · exact ⟨_, _, _, by rw [e]; exact hz⟩
theorem Obd.alloc {w wr : World} {b k : Nat} {E : Nat → Ev} (h : Obd w b E k wr) (o : Obj) : Obd w b E k (wr.alloc o) := by
  obtain ⟨h1, h2, h3, h4⟩ := h
  have hf : Frm (fun k => wr.heap.size ≤ k) wr (wr.alloc o) := (Frm.refl _ wr).alloc _
  refine ⟨?_, h2.alloc h2.size _, by rw [szA]; omega, h4⟩
  rcases h1 with ⟨mc, mf, ml, a1, a2, a3, hc⟩ | ⟨e, hz⟩
  · exact Or.inl ⟨mc, mf, ml, a1, a2, a3, hc.kept hf⟩
  · exact Or.inr ⟨e, hz.same (Below.heap_alloc _ _ _ h3)⟩
/-- One more event is observed. -/
theorem obd_call (w : World) (b N : Nat) (E : Nat → Ev) (hE : ∀ i, i < N → (Lit.int .i64 (E i).id).wf = true ∧ (E i).d ≤ 9223372036854775807 ∧ (E i).rs.size ≤ 1048576) (hN : N ≤ 4096) (k : Nat) (hk : k < N) (wq : World) (h : Obd w b E k wq) :
    Calls Try.prog 15 #[.pointer (some ⟨b, 0, none⟩), .agg (evCells (E k).ty (E k).rs (E k).id (E k).d)] wq fun e w' => e = .returned (.tuple #[]) ∧ Obd w b E (k + 1) w' := by
  obtain ⟨h1, h2, h3, h4⟩ := h
  obtain ⟨e1, e2, e3⟩ := hE k hk
  refine (observe_any w.heap.size b k k (evs E k) (E k).ty (E k).rs (E k).id (E k).d wq h1 h4 (bd_evs E N (fun i hi => (hE i hi).2.1) k (by omega)).1 (by omega) (by omega) e1 e2 (by unfold maxLen; omega) h3 h2.size).mono ?_
  rintro e w' ⟨rfl, hc, hb⟩
  exact ⟨rfl, Or.inl hc, h2.trans hb, Nat.lt_of_lt_of_le h3 hb.size, h4⟩

set_option maxRecDepth 20000 in
set_option maxHeartbeats 4000000 in
theorem hist_any (ao : Option Addr) (N cap : Nat) (E : Nat → Ev) (w : World) (h : EvAll w ao N E) :
    Calls Try.prog 6 #[.slice ao N cap] w fun e w' => e = .returned (.bool true) ∧ Below w.heap.size w w' := by
  have HEV := hide h
  have HD : Hid (∀ i, i < N → (Lit.int .i64 (E i).id).wf = true ∧ (E i).d ≤ 9223372036854775807) := hide (fun i hi => by
    obtain ⟨b, off, _, _, he⟩ := h.2 i hi
    have := he.wd
    simp only [Lit.wf, Bool.and_eq_true, decide_eq_true_eq] at this
    exact ⟨he.wi, Int.le_trans this.2 (by decide)⟩)
  have hN0 := h.1
  unfold maxLen at hN0
  clear h
  have CB := hide (bytes25_any ao N cap E w (unhide HEV))
  by_cases hN : (4096 : Int) < (N : Int)
  · go_enter Try.func6, Try.ntmps6
    go_wp2_with fail
    refine (unhide CB).mono ?_
    rintro e w' ⟨r, rfl, hby, rfl⟩
    cases r
    · go_wp2_with fail
      go_ret
      exact ⟨rfl, Below.refl _ _⟩
    · go_wp2_with fail
      go_ret
      exact ⟨rfl, Below.refl _ _⟩
  go_enter Try.func6, Try.ntmps6
  go_wp2_with fail
  refine (unhide CB).mono ?_
  rintro e w' ⟨r, rfl, hby, rfl⟩
  clear CB
  cases r
  · go_wp2_with fail
    go_ret
    exact ⟨rfl, Below.refl _ _⟩
  have HBY := hide (hby rfl)
  have HE : Hid (∀ i, i < N → (Lit.int .i64 (E i).id).wf = true ∧ (E i).d ≤ 9223372036854775807 ∧ (E i).rs.size ≤ 1048576) := hide (fun i hi => ⟨(unhide HD i hi).1, (unhide HD i hi).2, (unhide HBY i hi).2⟩)
  clear hby
  go_wp2_with fail
  go_loopw [3, 4] (fun z i wr => ∃ k c : Nat, k ≤ N ∧ c ≤ 1048576 ∧ z = .int .i64 c ∧ i = .int .i64 k ∧ Hid (∃ q, wr = w.drewN q)) (fun _ i _ => N - (intOf i).toNat)
  case atStart => exact ⟨0, 0, Nat.zero_le _, by omega, rfl, rfl, hide ⟨0, rfl⟩⟩
  case round =>
    obtain ⟨k, c, hk, hc, rfl, rfl, hq⟩ := hrel
    by_cases hlt : k < N
    · have hlt2 : (k : Int) < (N : Int) := by omega
      obtain ⟨b, off, rfl, hbb, he⟩ := ((unhide HEV).drawn hq).2 k hlt
      obtain ⟨c0, c1, c2, c3, wi, wd, _, _⟩ := he
      obtain ⟨lt, lr⟩ := unhide HBY k hlt
      by_cases g : (1048576 : Int) < (c : Int) + (32 + ((E k).ty.size : Int) + ((E k).rs.size : Int))
      · go_wp2_with fail
        go_quiet (fail)
        go_wp2_with fail
        go_ret
        refine ⟨rfl, ?_⟩
        obtain ⟨q, rfl⟩ := hq
        exact below_drewN (below_drewN (Below.refl _ _) _) _
      · go_wp2_with fail
        go_quiet (fail)
        go_wp2_with fail
        go_roundw
        case rel => exact ⟨k + 1, c + 32 + (E k).ty.size + (E k).rs.size, by omega, by omega, by go_num, by go_num, drawn_more hq _⟩
        case measure => simp [intOf]; omega
    · have hge : ¬ (k : Int) < (N : Int) := by omega
      go_wp2_with fail
      obtain ⟨wB, hwB⟩ : ∃ wB, wr.alloc (.cells Try.zeroCells50 50) = wB := ⟨_, rfl⟩
      obtain ⟨b0, hb0⟩ : ∃ b0, wr.heap.size = b0 := ⟨_, rfl⟩
      have hst : Hid (Obd w b0 E 0 wB) := hide (by
        obtain ⟨q, rfl⟩ := hq
        rw [← hwB, ← hb0]
        exact ⟨Or.inr ⟨rfl, zero_row _⟩, (below_drewN (Below.refl _ _) _).alloc (Nat.le_refl _) _, by rw [szA]; omega, Nat.le_refl _⟩)
      rw [hwB, hb0]
      clear hwB hb0
      go_loopw [6] (fun x wr => ∃ k : Nat, k ≤ N ∧ x = .int .i64 k ∧ Hid (Obd w b0 E k wr)) (fun x _ => N - (intOf x).toNat)
      case atStart => exact ⟨0, Nat.zero_le _, rfl, hst⟩
      case round =>
        clear hst
        obtain ⟨i, hi, rfl, hst⟩ := hrel
        by_cases hlt : i < N
        · have hlt2 : (i : Int) < (N : Int) := by omega
          obtain ⟨b, off, rfl, hbb, he⟩ := ((unhide HEV).below (unhide hst).2.1).2 i hlt
          obtain ⟨c0, c1, c2, c3, wi, wd, _, _⟩ := he
          have EVC : ∀ wq : World, Hid (Calls Try.prog 16 #[.string (E i).ty, .int .i64 (E i).id, .string (E i).rs, .int .i64 (E i).d] wq fun e w' => e = .returned (.agg (evCells (E i).ty (E i).rs (E i).id (E i).d)) ∧ w' = wq.alloc (.cells (evCells (E i).ty (E i).rs (E i).id (E i).d) 55)) := fun wq => hide (event_any _ _ _ _ wq)
          have OBC : ∀ wq : World, Hid (Obd w b0 E i wq → Calls Try.prog 15 #[.pointer (some ⟨b0, 0, none⟩), .agg (evCells (E i).ty (E i).rs (E i).id (E i).d)] wq fun e w' => e = .returned (.tuple #[]) ∧ Obd w b0 E (i + 1) w') := fun wq => hide (fun h => obd_call w b0 N E (unhide HE) (by omega) i hlt wq h)
          go_wp2_with fail
          refine (unhide (EVC _)).mono ?_
          rintro e wA ⟨rfl, hwA⟩
          have hA : Hid (Obd w b0 E i wA) := hide (by rw [hwA]; exact ((unhide hst).alloc _).alloc _)
          clear hwA hst
          go_wp2_with fail
          refine (unhide (OBC _) (unhide hA)).mono ?_
          rintro e wO ⟨rfl, hO⟩
          have HO := hide hO
          clear hO
          go_wp2_with fail
          go_roundw
          case rel => exact ⟨i + 1, by omega, by go_num, HO⟩
          case measure => simp [intOf]; omega
        · have hge : ¬ (i : Int) < (N : Int) := by omega
          obtain rfl : i = N := by omega
          obtain ⟨wo, hwo⟩ : ∃ wo, wo = wr := ⟨_, rfl⟩
          subst hwo
          go_wp2_with fail
          go_loop [8, 9, 10, 11] (fun x8 x9 x10 x11 => ∃ j c t m : Nat, j ≤ i ∧ c ≤ j ∧ t ≤ 9223372036854775807 ∧ x8 = .int .i64 c ∧ x9 = .int .i64 m ∧ x10 = .int .u64 t ∧ x11 = .int .i64 j ∧ Hid (c = cntO E j ∧ t = totO E j ∧ m = mxO E j)) (fun _ _ _ x => i - (intOf x).toNat)
          case atStart => exact ⟨0, 0, 0, 0, Nat.zero_le _, Nat.zero_le _, by omega, rfl, rfl, rfl, rfl, hide ⟨rfl, rfl, rfl⟩⟩
          case round =>
            obtain ⟨j, cj, tj, mj, hj, hcj, htj, rfl, rfl, rfl, rfl, hsum⟩ := hrel
            by_cases hlt : j < i
            · have hlt2 : (j : Int) < (i : Int) := by omega
              obtain ⟨b, off, rfl, hbb, he⟩ := ((unhide HEV).below (unhide hst).2.1).2 j hlt
              obtain ⟨c0, c1, c2, c3, wi, wd, _, _⟩ := he
              have hdle := (unhide HE j hlt).2.1
              cases q : ((E j).ty.toList == [67, 111, 110, 110, 101, 99, 116, 105, 111, 110, 67, 104, 101, 99, 107, 101, 100, 79, 117, 116])
              · have hs := hide (outStep E j q)
                go_wp2_with fail
                refine ⟨⟨j + 1, cj, tj, mj, by omega, by omega, htj, rfl, rfl, rfl, by go_num, hide ?_⟩, ?_⟩
                · obtain ⟨s1, s2, s3⟩ := unhide hs
                  obtain ⟨r1, r2, r3⟩ := unhide hsum
                  exact ⟨by rw [s1]; exact r1, by rw [s3]; exact r2, by rw [s2]; exact r3⟩
                · simp [intOf]; omega
              · have hs := hide (inStep E j q)
                by_cases hd0 : (E j).d < 0
                · have hw : Hid (wt (E j) = 0) := hide (by unfold wt; omega)
                  go_wp2_with fail
                  go_round
                  case rel =>
                    refine ⟨j + 1, cj + 1, tj, mj, by omega, by omega, htj, by go_num, rfl, rfl, by go_num, hide ?_⟩
                    obtain ⟨s1, s2, s3⟩ := unhide hs
                    obtain ⟨r1, r2, r3⟩ := unhide hsum
                    rw [s1, s2, s3, unhide hw, ← r1, ← r2, ← r3]
                    omega
                  case measure => simp [intOf]; omega
                · obtain ⟨dn, hdn⟩ : ∃ dn : Nat, (E j).d = (dn : Int) := Int.eq_ofNat_of_zero_le (by omega)
                  have hw : Hid (wt (E j) = dn) := hide (by unfold wt; omega)
                  rw [hdn] at c3 hdle
                  clear hd0 wd hdn
                  by_cases g1 : (9223372036854775807 : Int) < (tj : Int) + (dn : Int)
                  · by_cases g2 : (mj : Int) < (dn : Int)
                    · go_wp2_with fail
                      go_round
                      case rel =>
                        refine ⟨j + 1, cj + 1, 9223372036854775807, dn, by omega, by omega, by omega, by go_num, rfl, rfl, by go_num, hide ?_⟩
                        obtain ⟨s1, s2, s3⟩ := unhide hs
                        obtain ⟨r1, r2, r3⟩ := unhide hsum
                        rw [s1, s2, s3, unhide hw, ← r1, ← r2, ← r3]
                        omega
                      case measure => simp [intOf]; omega
                    · go_wp2_with fail
                      go_round
                      case rel =>
                        refine ⟨j + 1, cj + 1, 9223372036854775807, mj, by omega, by omega, by omega, by go_num, rfl, rfl, by go_num, hide ?_⟩
                        obtain ⟨s1, s2, s3⟩ := unhide hs
                        obtain ⟨r1, r2, r3⟩ := unhide hsum
                        rw [s1, s2, s3, unhide hw, ← r1, ← r2, ← r3]
                        omega
                      case measure => simp [intOf]; omega
                  · by_cases g2 : (mj : Int) < (dn : Int)
                    · go_wp2_with fail
                      go_round
                      case rel =>
                        refine ⟨j + 1, cj + 1, tj + dn, dn, by omega, by omega, by omega, by go_num, rfl, by go_num, by go_num, hide ?_⟩
                        obtain ⟨s1, s2, s3⟩ := unhide hs
                        obtain ⟨r1, r2, r3⟩ := unhide hsum
                        rw [s1, s2, s3, unhide hw, ← r1, ← r2, ← r3]
                        omega
                      case measure => simp [intOf]; omega
                    · go_wp2_with fail
                      go_round
                      case rel =>
                        refine ⟨j + 1, cj + 1, tj + dn, mj, by omega, by omega, by omega, by go_num, rfl, by go_num, by go_num, hide ?_⟩
                        obtain ⟨s1, s2, s3⟩ := unhide hs
                        obtain ⟨r1, r2, r3⟩ := unhide hsum
                        rw [s1, s2, s3, unhide hw, ← r1, ← r2, ← r3]
                        omega
                      case measure => simp [intOf]; omega
            · have hge : ¬ (j : Int) < (i : Int) := by omega
              obtain rfl : j = i := by omega
              obtain ⟨vc, vf, vl, hrow⟩ := (unhide hst).row
              obtain ⟨k1, k2, k3, k4⟩ := hist_evs E j (fun i hi => (unhide HE i hi).2.1) j (Nat.le_refl _)
              obtain ⟨r1, r2, r3⟩ := unhide hsum
              have h11 : wo.cell? ⟨b0, 11, none⟩ = some (.int .i64 (cj : Int)) := by rw [hrow.cell 11 (by omega), r1, ← k1]; rfl
              have h12 : wo.cell? ⟨b0, 12, none⟩ = some (.int .i64 (tj : Int)) := by rw [hrow.cell 12 (by omega), r2, ← k2]; rfl
              have h13 : wo.cell? ⟨b0, 13, none⟩ = some (.int .i64 (mj : Int)) := by rw [hrow.cell 13 (by omega), r3, ← k3]; rfl
              have HB : Hid (∀ m, m < 1888 → wo.cell? ⟨b0, 14 + m, none⟩ = some (.int .i64 ((bkO E m j : Nat) : Int))) := hide (fun m hm => by
                rw [hrow.cell (14 + m) (by omega), ← k4 m]
                unfold cellsOf
                simp only [show 14 + m ≠ 0 by omega, show 14 + m ≠ 1 by omega, show 14 + m ≠ 2 by omega, show ¬ 14 + m < 6 by omega, show 14 + m ≠ 6 by omega, show 14 + m ≠ 7 by omega, show 14 + m ≠ 8 by omega, show 14 + m ≠ 9 by omega, show 14 + m ≠ 10 by omega, show 14 + m ≠ 11 by omega, show 14 + m ≠ 12 by omega, show 14 + m ≠ 13 by omega, if_false, Nat.add_sub_cancel_left])
              have CW := hide (waits_any b0 _ _ _ wo h11 h12 h13)
              clear hrow k1 k2 k3 k4 r1 r2 r3 h11 h12 h13
              go_wp2_with fail
              refine (unhide CW).mono ?_
              rintro e w3 ⟨rfl, q, hw3⟩
              have HW3 : Hid (∃ q, w3 = wo.drewN q) := hide ⟨q, hw3⟩
              clear hw3 CW
              go_wp2_with fail
              have hHE : Hid (EvAll w3 ao j E) := hide (((unhide HEV).below (unhide hst).2.1).drawn HW3)
              have hHB : Hid (∀ m, m < 1888 → w3.cell? ⟨b0, 14 + m, none⟩ = some (.int .i64 ((bkO E m j : Nat) : Int))) := hide (fun m hm => by
                obtain ⟨q, rfl⟩ := HW3
                exact (World.cell?_of_block (w := wo) rfl).trans (unhide HB m hm))
              have hBel : Hid (Below w.heap.size w w3) := hide (by
                obtain ⟨q, rfl⟩ := HW3
                exact below_drewN (unhide hst).2.1 _)
              clear HB HW3 hst HEV hsum
              go_loop [16] (fun x => ∃ m : Nat, m ≤ 1888 ∧ x = .int .i64 m) (fun x => 1888 - (intOf x).toNat)
              case atStart => exact ⟨0, Nat.zero_le _, rfl⟩
              case round =>
                obtain ⟨m, hm, rfl⟩ := hrel
                by_cases hmlt : m < 1888
                · have hlt2 : (m : Int) < 1888 := by omega
                  by_cases h64 : (m : Int) < 64
                  · have HLH : Hid (((lo m : Nat) : Int) = (m : Int) ∧ ((Go.Proofs.Qxb6615473a.hi m : Nat) : Int) = (m : Int) + 1) := hide (by obtain ⟨l1, l2⟩ := lo_small m (by omega); rw [l1, l2]; omega)
                    go_wp2_with fail
                    as_aux_lemma =>
                      go_loop [21, 22] (fun x y => ∃ a c5 : Nat, a ≤ j ∧ c5 ≤ a ∧ x = .int .i64 c5 ∧ y = .int .i64 a ∧ Hid (c5 = bkO E m a)) (fun _ y => j - (intOf y).toNat)
                      case atStart => exact ⟨0, 0, Nat.zero_le _, Nat.zero_le _, rfl, rfl, hide rfl⟩
                      case round =>
                        obtain ⟨a, c5, ha, hc5, rfl, rfl, hsum⟩ := hrel
                        by_cases halt : a < j
                        · have halt2 : (a : Int) < (j : Int) := by omega
                          obtain ⟨b, off, rfl, hbb, he⟩ := (unhide hHE).2 a halt
                          obtain ⟨c0, c1, c2, c3, wi, wd, _, _⟩ := he
                          have hdle := (unhide HE a halt).2.1
                          cases q : ((E a).ty.toList == [67, 111, 110, 110, 101, 99, 116, 105, 111, 110, 67, 104, 101, 99, 107, 101, 100, 79, 117, 116])
                          · have hs := hide (bk_no E m a (Or.inl q))
                            go_wp2_with fail
                            refine ⟨⟨a + 1, c5, by omega, by omega, rfl, by go_num, hide (by rw [unhide hs]; exact unhide hsum)⟩, ?_⟩
                            simp [intOf]; omega
                          · by_cases hd0 : (E a).d < 0
                            · have hw : wt (E a) = 0 := by unfold wt; omega
                              by_cases g0 : m = 0
                              · subst g0
                                have hs := hide (bk_yes E 0 a q (by rw [hw]; obtain ⟨l1, l2⟩ := unhide HLH; omega) (by rw [hw]; obtain ⟨l1, l2⟩ := unhide HLH; omega))
                                clear hw
                                go_wp2_with fail
                                go_round
                                case rel => exact ⟨a + 1, c5 + 1, by omega, by omega, by go_num, by go_num, hide (by rw [unhide hs, unhide hsum])⟩
                                case measure => simp [intOf]; omega
                              · have g1 : ¬ (m : Int) ≤ 0 := by omega
                                have hs := hide (bk_no E m a (Or.inr (Or.inl (by rw [hw]; obtain ⟨l1, l2⟩ := unhide HLH; omega))))
                                clear hw
                                go_wp2_with fail
                                go_round
                                case rel => exact ⟨a + 1, c5, by omega, by omega, rfl, by go_num, hide (by rw [unhide hs, unhide hsum])⟩
                                case measure => simp [intOf]; omega
                            · obtain ⟨dn, hdn⟩ : ∃ dn : Nat, (E a).d = (dn : Int) := Int.eq_ofNat_of_zero_le (by omega)
                              have hw : wt (E a) = dn := by unfold wt; omega
                              rw [hdn] at c3 hdle
                              clear hd0 wd hdn
                              by_cases g1 : (m : Int) ≤ (dn : Int)
                              · by_cases g2 : (dn : Int) < (m : Int) + 1
                                · have hs := hide (bk_yes E m a q (by rw [hw]; obtain ⟨l1, l2⟩ := unhide HLH; omega) (by rw [hw]; obtain ⟨l1, l2⟩ := unhide HLH; omega))
                                  clear hw
                                  go_wp2_with fail
                                  go_round
                                  case rel => exact ⟨a + 1, c5 + 1, by omega, by omega, by go_num, by go_num, hide (by rw [unhide hs, unhide hsum])⟩
                                  case measure => simp [intOf]; omega
                                · have hs := hide (bk_no E m a (Or.inr (Or.inr (by rw [hw]; obtain ⟨l1, l2⟩ := unhide HLH; omega))))
                                  clear hw
                                  go_wp2_with fail
                                  go_round
                                  case rel => exact ⟨a + 1, c5, by omega, by omega, rfl, by go_num, hide (by rw [unhide hs, unhide hsum])⟩
                                  case measure => simp [intOf]; omega
                              · have hs := hide (bk_no E m a (Or.inr (Or.inl (by rw [hw]; obtain ⟨l1, l2⟩ := unhide HLH; omega))))
                                clear hw
                                go_wp2_with fail
                                go_round
                                case rel => exact ⟨a + 1, c5, by omega, by omega, rfl, by go_num, hide (by rw [unhide hs, unhide hsum])⟩
                                case measure => simp [intOf]; omega
                        · have hage : ¬ (a : Int) < (j : Int) := by omega
                          obtain rfl : a = j := by omega
                          have hcb := unhide hHB m hmlt
                          rw [← unhide hsum] at hcb
                          have CG := hide (bucket_get b0 m (c5 : Int) w3 hmlt hcb)
                          clear hcb
                          go_wp2_with fail
                          refine (unhide CG).mono ?_
                          rintro e w4 ⟨rfl, rfl⟩
                          go_wp2_with fail
                          go_round
                          case rel => exact ⟨m + 1, by omega, by go_num⟩
                          case measure => simp [intOf]; omega
                  · obtain ⟨z1, z2, z3, z4, z5⟩ := lo_big m (by omega) hmlt
                    obtain ⟨L, hL⟩ : ∃ L : Nat, lo m = L := ⟨_, rfl⟩
                    obtain ⟨Hh, hH⟩ : ∃ Hh : Nat, Go.Proofs.Qxb6615473a.hi m = Hh := ⟨_, rfl⟩
                    rw [hL] at z1 z3 z5
                    rw [hH] at z2 z4
                    have HLH : Hid (((lo m : Nat) : Int) = (L : Int) ∧ ((Go.Proofs.Qxb6615473a.hi m : Nat) : Int) = (Hh : Int)) := hide ⟨by rw [hL], by rw [hH]⟩
                    have HZ1 := hide z1
                    have HZ2 := hide z2
                    clear hL hH z1 z2
                    go_wp2_with fail
                    rw [unhide HZ1, unhide HZ2]
                    as_aux_lemma =>
                      go_loop [21, 22] (fun x y => ∃ a c5 : Nat, a ≤ j ∧ c5 ≤ a ∧ x = .int .i64 c5 ∧ y = .int .i64 a ∧ Hid (c5 = bkO E m a)) (fun _ y => j - (intOf y).toNat)
                      case atStart => exact ⟨0, 0, Nat.zero_le _, Nat.zero_le _, rfl, rfl, hide rfl⟩
                      case round =>
                        obtain ⟨a, c5, ha, hc5, rfl, rfl, hsum⟩ := hrel
                        by_cases halt : a < j
                        · have halt2 : (a : Int) < (j : Int) := by omega
                          obtain ⟨b, off, rfl, hbb, he⟩ := (unhide hHE).2 a halt
                          obtain ⟨c0, c1, c2, c3, wi, wd, _, _⟩ := he
                          have hdle := (unhide HE a halt).2.1
                          cases q : ((E a).ty.toList == [67, 111, 110, 110, 101, 99, 116, 105, 111, 110, 67, 104, 101, 99, 107, 101, 100, 79, 117, 116])
                          · have hs := hide (bk_no E m a (Or.inl q))
                            go_wp2_with fail
                            refine ⟨⟨a + 1, c5, by omega, by omega, rfl, by go_num, hide (by rw [unhide hs]; exact unhide hsum)⟩, ?_⟩
                            simp [intOf]; omega
                          · by_cases hd0 : (E a).d < 0
                            · have hw : wt (E a) = 0 := by unfold wt; omega
                              have g1 : ¬ (L : Int) ≤ 0 := by omega
                              have hs := hide (bk_no E m a (Or.inr (Or.inl (by rw [hw]; obtain ⟨l1, l2⟩ := unhide HLH; omega))))
                              clear hw
                              go_wp2_with fail
                              go_round
                              case rel => exact ⟨a + 1, c5, by omega, by omega, rfl, by go_num, hide (by rw [unhide hs, unhide hsum])⟩
                              case measure => simp [intOf]; omega
                            · obtain ⟨dn, hdn⟩ : ∃ dn : Nat, (E a).d = (dn : Int) := Int.eq_ofNat_of_zero_le (by omega)
                              have hw : wt (E a) = dn := by unfold wt; omega
                              rw [hdn] at c3 hdle
                              clear hd0 wd hdn
                              by_cases g1 : (L : Int) ≤ (dn : Int)
                              · by_cases g2 : (dn : Int) < (Hh : Int)
                                · have hs := hide (bk_yes E m a q (by rw [hw]; obtain ⟨l1, l2⟩ := unhide HLH; omega) (by rw [hw]; obtain ⟨l1, l2⟩ := unhide HLH; omega))
                                  clear hw
                                  go_wp2_with fail
                                  go_round
                                  case rel => exact ⟨a + 1, c5 + 1, by omega, by omega, by go_num, by go_num, hide (by rw [unhide hs, unhide hsum])⟩
                                  case measure => simp [intOf]; omega
                                · have hs := hide (bk_no E m a (Or.inr (Or.inr (by rw [hw]; obtain ⟨l1, l2⟩ := unhide HLH; omega))))
                                  clear hw
                                  go_wp2_with fail
                                  go_round
                                  case rel => exact ⟨a + 1, c5, by omega, by omega, rfl, by go_num, hide (by rw [unhide hs, unhide hsum])⟩
                                  case measure => simp [intOf]; omega
                              · have hs := hide (bk_no E m a (Or.inr (Or.inl (by rw [hw]; obtain ⟨l1, l2⟩ := unhide HLH; omega))))
                                clear hw
                                go_wp2_with fail
                                go_round
                                case rel => exact ⟨a + 1, c5, by omega, by omega, rfl, by go_num, hide (by rw [unhide hs, unhide hsum])⟩
                                case measure => simp [intOf]; omega
                        · have hage : ¬ (a : Int) < (j : Int) := by omega
                          obtain rfl : a = j := by omega
                          have hcb := unhide hHB m hmlt
                          rw [← unhide hsum] at hcb
                          have CG := hide (bucket_get b0 m (c5 : Int) w3 hmlt hcb)
                          clear hcb
                          go_wp2_with fail
                          refine (unhide CG).mono ?_
                          rintro e w4 ⟨rfl, rfl⟩
                          go_wp2_with fail
                          go_round
                          case rel => exact ⟨m + 1, by omega, by go_num⟩
                          case measure => simp [intOf]; omega
                · have hge : ¬ (m : Int) < 1888 := by omega
                  go_wp2_with fail
                  go_ret
                  exact ⟨rfl, unhide hBel⟩
end Go.Proofs.Qxb6615473a
