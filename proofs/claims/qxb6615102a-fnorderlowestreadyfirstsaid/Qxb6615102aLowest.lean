import Derived.Test.Qxb6615102aWindow
namespace Go.Proofs.Qxb6615102a
open Go.RowKit
set_option linter.unusedVariables false

/-- The memory while pos is laid out .. -/
def PsA (w1 : World) (n v : Nat) (wr : World) : Prop :=
  Frm (fun k => w1.heap.size ≤ k) w1 wr ∧ ∃ c, RowAt wr w1.heap.size 3 n c ∧ ∀ k, k < v → c k = .int .i64 (-1)
theorem PsA.store {w1 wr : World} {n v : Nat} (h : PsA w1 n v wr) (hv : v < n) :
    wr.cell? ⟨w1.heap.size, v, none⟩ ≠ none ∧ wr.frozen? ⟨w1.heap.size, v, none⟩ = false ∧ PsA w1 n (v + 1) (wr.setCell ⟨w1.heap.size, v, none⟩ (.int .i64 (-1))) := by
  obtain ⟨hf, c, hr, hc⟩ := h
  refine ⟨by rw [hr.cell v hv]; simp, hr.free v, hf.setCell (Nat.le_refl _) _, _, hr.store v _, fun p hp => ?_⟩
  unfold upd
  by_cases e : p = v
  · rw [if_pos e]
  · rw [if_neg e]
    exact hc p (by omega)
/-- .. and filled. -/
def PsB (w1 : World) (n : Nat) (P : List Nat) (p : Nat) (wr : World) : Prop :=
  Frm (fun k => w1.heap.size ≤ k) w1 wr ∧ RowAt wr w1.heap.size 3 n (fun v => .int .i64 (posF P p v))
theorem PsA.done {w1 wr : World} {n : Nat} (h : PsA w1 n n wr) (P : List Nat) : PsB w1 n P 0 wr := by
  obtain ⟨hf, c, hr, hc⟩ := h
  exact ⟨hf, hr.congr fun k hk => by rw [hc k hk, posF_zero]⟩
theorem PsB.store {w1 wr : World} {n p : Nat} {P : List Nat} (h : PsB w1 n P p wr) (hn : P.Nodup) (hp : p < P.length) (hlt : P.getD p 0 < n) :
    wr.cell? ⟨w1.heap.size, P.getD p 0, none⟩ = some (.int .i64 (-1)) ∧ wr.frozen? ⟨w1.heap.size, P.getD p 0, none⟩ = false ∧ PsB w1 n P (p + 1) (wr.setCell ⟨w1.heap.size, P.getD p 0, none⟩ (.int .i64 (p : Int))) := by
  obtain ⟨hf, hr⟩ := h
  refine ⟨by rw [hr.cell _ hlt, posF_new hn p hp], hr.free _, hf.setCell (Nat.le_refl _) _, (hr.store _ _).congr fun k hk => ?_⟩
  unfold upd
  rw [← posF_step hn p k hp]
  by_cases e : k = P.getD p 0
  · rw [if_pos e, if_pos e]
  · rw [if_neg e, if_neg e]

set_option maxRecDepth 20000 in
set_option maxHeartbeats 4000000 in
theorem lowest_any (m : Int) (ao : Option Addr) (N cap : Nat) (sv : Nat → Value) (E : Nat → List Int) (w : World) (h : LL w ao N sv E) :
    Calls Try.prog 3 #[.int .i64 m, .slice ao N cap] w fun e w' => e = .returned (.bool true) ∧ Below w.heap.size w w' := by
  obtain ⟨i3, hi3, hz30, hz31, hz32⟩ := info_parts info3
  have HLL := hide h
  clear h
  go_enter Try.func3, Try.ntmps3
  go_wp2_with fail
  refine (bytes5_any m ao N cap sv E w (unhide HLL)).mono ?_
  rintro e w' ⟨r, rfl, rfl⟩
  cases r
  · go_wp2
    go_ret
    exact ⟨rfl, Below.refl _ _⟩
  go_wp2_with fail
  refine (big_any ao N cap sv E w (unhide HLL)).mono ?_
  rintro e w' ⟨r, rfl, hbig, rfl⟩
  cases r
  rotate_left
  · go_wp2
    go_ret
    exact ⟨rfl, Below.refl _ _⟩
  obtain ⟨hN, hsum⟩ := hbig rfl
  clear hbig
  go_wp2_with fail
  refine (dom_any m ao N cap sv E w (unhide HLL)).mono ?_
  rintro e w' ⟨r, rfl, hdom, rfl⟩
  cases r
  · go_wp2
    go_ret
    exact ⟨rfl, Below.refl _ _⟩
  obtain ⟨hm0, hm1, hmN, hd⟩ := hdom rfl
  clear hdom
  obtain ⟨n, rfl⟩ := Int.eq_ofNat_of_zero_le hm0
  have hn1 : n ≤ 65536 := by omega
  have hnN : n ≤ N := by omega
  have hd' : ∀ i, i < n → ∀ x, x ∈ E i → 0 ≤ x ∧ x < (n : Int) := fun i hi => hd i (by omega)
  have HRV := hide ((unhide HLL).rows (cap := cap) n hnN hN hd')
  have hsD : sumLen (nats E) n ≤ 131072 := by rw [nats_sum]; exact Nat.le_trans (sumI_mono E n N hnN) hsum
  have HLT : Hid (∀ i, i < n → ∀ j, j ∈ nats E i → j < n) := hide (fun i hi => nats_mem E n i (hd' i hi))
  clear hd hd' hm0 hm1 hmN HLL
  generalize nats E = D at *
  have HSD := hide hsD
  clear hsD hsum
  go_wp2_with fail
  refine (lists_any n ao N cap sv D w (by omega) (unhide HRV) (unhide HLT) (by have := unhide HSD; omega)).mono ?_
  rintro e w1 ⟨O, P, rfl, hdn, hO, hown, hb1⟩
  have hnd := run_nodup n D P hdn.1
  have hPl : P.length ≤ n := nodup_len n P hnd (run_lt n D P hdn.1)
  have hPI : (P.length : Int) ≤ (n : Int) := by omega
  have hOl : O < w1.heap.size := (hown.lt O rfl).2
  have HDN := hide hdn
  have HOW := hide hown
  have HB1 := hide hb1
  have HND := hide hnd
  clear hdn hown hb1 hnd
  go_wp2_with (at_make; refine wpList_make_full _ rfl (.tmp 35) (.tmp 35) 25 rfl w1.heap.size 3 i3 (.int .i64 0) 1 Try.underlying25 hi3 hz30 hz31 _ _ _ _ n rfl rfl (by omega) (by omega) ?b2 ?b3 (Nat.le_refl _) ?_)
  case b2 => rw [hz32]; omega
  case b3 => unfold maxLen; omega
  intro w2 hown2 hgrow2
  have HA : Hid (PsA w1 n 0 w2) := hide ⟨(Frm.refl _ w1).grown hgrow2 (by intro k hk; cases hk), _, made_row hown2, fun p hp => absurd hp (Nat.not_lt_zero p)⟩
  clear hown2 hgrow2
  go_wp2_with fail
  go_loopw [8] (fun x wr => ∃ v : Nat, v ≤ n ∧ x = .int .i64 v ∧ Hid (PsA w1 n v wr)) (fun x _ => n - (intOf x).toNat)
  case atStart => exact ⟨0, Nat.zero_le _, rfl, HA⟩
  case round =>
    clear HA
    obtain ⟨v, hv, rfl, hps⟩ := hrel
    by_cases hlt : v < n
    · have hltI : (v : Int) < (n : Int) := by omega
      obtain ⟨hn', hf', hps'⟩ := (unhide hps).store hlt
      obtain ⟨u0, hu0⟩ : ∃ u, wr.cell? ⟨w1.heap.size, v, none⟩ = some u := Option.ne_none_iff_exists'.1 hn'
      have HPS := hide hps'
      clear hn' hps'
      go_wp2_with fail
      go_roundw
      case rel => exact ⟨v + 1, by omega, by go_num, HPS⟩
      case measure => simp [intOf]; omega
    · have hge : ¬ (v : Int) < (n : Int) := by omega
      obtain rfl : n = v := by omega
      have HB : Hid (PsB w1 n P 0 wr) := hide ((unhide hps).done P)
      clear hps
      go_wp2_with fail
      go_loopw [9] (fun x wr => ∃ p : Nat, p ≤ P.length ∧ x = .int .i64 p ∧ Hid (PsB w1 n P p wr)) (fun x _ => P.length - (intOf x).toNat)
      case atStart => exact ⟨0, Nat.zero_le _, rfl, HB⟩
      case round =>
        clear HB
        obtain ⟨p, hp, rfl, hps⟩ := hrel
        by_cases hlt : p < P.length
        · have hltI : (p : Int) < (P.length : Int) := by omega
          have hyn := run_lt n D P (unhide HDN).1 _ (getD_mem P p hlt)
          obtain ⟨hc1, hf1, hps'⟩ := (unhide hps).store (unhide HND) hlt hyn
          have hco := (World.cell?_of_block (w := w1) ((unhide hps).1.block O hOl (by omega))).trans ((unhide HOW).reads rfl p hlt)
          generalize P.getD p 0 = y at *
          have hy0 : ¬ (y : Int) < 0 := by omega
          have hy1 : ¬ (n : Int) ≤ (y : Int) := by omega
          have hy2 : (y : Int) < (n : Int) := by omega
          have HPS := hide hps'
          clear hps' hps
          go_wp2_with fail
          go_roundw
          case rel => exact ⟨p + 1, by omega, by go_num, HPS⟩
          case measure => simp [intOf]; omega
        · have hge : ¬ (p : Int) < (P.length : Int) := by omega
          obtain rfl : P.length = p := by omega
          obtain ⟨hfr, hrow⟩ := unhide hps
          have hown5 : Own wr 0 (.slice (some ⟨O, 0, none⟩) P.length n) (ints P) := (unhide HOW).frm hfr (by intro k hk; obtain rfl : O = k := Option.some.inj hk; omega)
          have HF5 := hide hfr
          have HR5 := hide hrow
          have CL := hide (levels_any O n 0 P wr hown5 (by omega))
          clear hps hfr hrow hown5 hge
          go_wp2_with fail
          refine (unhide CL).mono ?_
          rintro e w6 ⟨K, g, lc, rfl, hlv, hKp, hKb⟩
          obtain ⟨g', c', hv, hrd⟩ := hlv.read
          simp only [Value.slice.injEq, Option.some.injEq, Addr.mk.injEq, and_true, true_and] at hv
          obtain ⟨rfl, rfl⟩ := hv
          have HLV : Hid (LvR w6 P K g) := hide ⟨hrd, hKp, hKb⟩
          have HR6 := hide ((unhide HR5).same (hlv.1.block _ (unhide HR5).lt))
          have HB6 : Hid (Below w.heap.size w w6) := hide ((unhide HB1).trans (((unhide HF5).below (unhide HB1).size (fun k hk => by have := (unhide HB1).size; omega)).trans (hlv.1.mono (by have := (unhide HB1).size; have := (unhide HF5).size; omega))))
          have HRV6 := hide ((unhide HRV).below (unhide HB6) (Nat.le_refl _))
          clear hrd hlv hKp CL HF5 HR5
          go_wp2_with fail
          go_loop [12] (fun x => ∃ v : Nat, v ≤ n ∧ x = .int .i64 v) (fun x => n - (intOf x).toNat)
          case atStart => exact ⟨0, Nat.zero_le _, rfl⟩
          case round =>
            obtain ⟨v, hv, rfl⟩ := hrel
            by_cases hlt : v < n
            · have hltI : (v : Int) < (n : Int) := by omega
              have hvN : (v : Int) < (N : Int) := by omega
              obtain ⟨b, off, N', cap', e1, hbb, _, _, hce, ai, ci, hsv, hcells⟩ := unhide HRV6 v hlt
              simp only [Value.slice.injEq] at e1
              obtain ⟨rfl, rfl, rfl⟩ := e1
              rw [hsv] at hce
              have hlen : (D v).length ≤ 131072 := Nat.le_trans (len_le_sum D v n hlt) (unhide HSD)
              have HCE := hide hcells
              clear hsv hcells
              go_wp2_with fail
              go_loop [13, 14, 84] (fun x y z => ∃ (t rd : Nat) (pl : Bool), t ≤ (D v).length ∧ rd ≤ 65537 ∧ x = .int .i64 rd ∧ y = .bool pl ∧ z = .int .i64 t ∧ Hid (Rdy P ((D v).take t) rd pl)) (fun _ _ z => (D v).length - (intOf z).toNat)
              case atStart => exact ⟨0, 0, true, Nat.zero_le _, by omega, rfl, rfl, rfl, hide (by rw [List.take_zero]; exact rdy_nil P)⟩
              case round =>
                obtain ⟨t, rd, pl, ht, hrd, rfl, rfl, rfl, hr⟩ := hrel
                by_cases htl : t < (D v).length
                · have htlI : (t : Int) < ((D v).length : Int) := by omega
                  obtain ⟨b', o', rfl, hb', hcx⟩ := unhide HCE t htl
                  have hun := unhide HLT v hlt _ (getD_mem (D v) t htl)
                  have hcu := (unhide HR6).cell _ hun
                  have htk : (D v).take (t + 1) = (D v).take t ++ [(D v).getD t 0] := by
                    rw [List.take_add_one, List.getD_eq_getElem?_getD, List.getElem?_eq_getElem htl]; rfl
                  obtain ⟨u, hu⟩ : ∃ u, (D v).getD t 0 = u := ⟨_, rfl⟩
                  rw [hu] at hcx hun hcu htk
                  have HTK := hide htk
                  have hunI : (u : Int) < (n : Int) := by omega
                  clear hu htk
                  by_cases hin : u ∈ P
                  · obtain ⟨i, hi, rfl⟩ := mem_getD P u hin
                    rw [posF_in (unhide HND) P.length i hi (Nat.le_refl _)] at hcu
                    have hstep := rdy_in (unhide HND) (unhide hr) i hi
                    rw [← unhide HTK] at hstep
                    clear HTK
                    generalize P.getD i 0 = u at *
                    have hne : ¬ (i : Int) = -1 := by omega
                    have hneB : ((i : Int) == -1) = false := by simp
                    by_cases hc : rd < i + 1
                    · rw [if_pos hc] at hstep
                      have HST := hide hstep
                      have hcI : (rd : Int) < (i : Int) + 1 := by omega
                      clear hstep hr hin
                      go_wp2_with fail
                      go_round
                      case rel => exact ⟨t + 1, i + 1, pl, by omega, by omega, by go_num, rfl, by go_num, HST⟩
                      case measure => simp [intOf]; omega
                    · rw [if_neg hc] at hstep
                      have HST := hide hstep
                      have hcI : ¬ (rd : Int) < (i : Int) + 1 := by omega
                      clear hstep hr hin
                      go_wp2_with fail
                      go_round
                      case rel => exact ⟨t + 1, rd, pl, by omega, by omega, rfl, rfl, by go_num, HST⟩
                      case measure => simp [intOf]; omega
                  · rw [posF_out P P.length u (fun i hi e => hin (e ▸ getD_mem P i hi))] at hcu
                    have hstep := rdy_out (unhide hr) u hin
                    rw [← unhide HTK] at hstep
                    have HST := hide hstep
                    clear HTK hstep hr hin
                    go_wp2_with fail
                    go_round
                    case rel => exact ⟨t + 1, rd, false, by omega, by omega, rfl, rfl, by go_num, HST⟩
                    case measure => simp [intOf]; omega
                · have htlI : ¬ (t : Int) < ((D v).length : Int) := by omega
                  have hr' := unhide hr
                  rw [List.take_of_length_le (by omega)] at hr'
                  have hcv := (unhide HR6).cell v hlt
                  clear HCE hr
                  by_cases hin : v ∈ P
                  · obtain ⟨p, hp, hpv⟩ := mem_getD P v hin
                    rw [← hpv, posF_in (unhide HND) P.length p hp (Nat.le_refl _), hpv] at hcv
                    rw [← hpv] at hr'
                    obtain ⟨rfl, hrp, hq⟩ := low_in (unhide HDN) p hp hr'
                    rw [hpv] at hq
                    have HQ := hide hq
                    clear hq hr' hin hpv
                    have hne : ¬ (p : Int) = -1 := by omega
                    have hneB : ((p : Int) == -1) = false := by simp
                    have hrpI : ¬ (p : Int) < (rd : Int) := by omega
                    by_cases hc : rd < p
                    · have hcI : (rd : Int) < (p : Int) := by omega
                      go_wp2_with fail
                      refine (window_any g lc K P rd p w6 (unhide HLV) hc (by omega) (by omega)).mono ?_
                      rintro e w' ⟨q, hq1, hq2, rfl, rfl⟩
                      have hle := unhide HQ q hq1 hq2
                      generalize P.getD q 0 = z at *
                      have hzI : ¬ (v : Int) < (z : Int) := by omega
                      go_wp2_with fail
                      go_round
                      case rel => exact ⟨v + 1, by omega, by go_num⟩
                      case measure => simp [intOf]; omega
                    · have hcI : ¬ (rd : Int) < (p : Int) := by omega
                      go_wp2_with fail
                      go_round
                      case rel => exact ⟨v + 1, by omega, by go_num⟩
                      case measure => simp [intOf]; omega
                  · rw [posF_out P P.length v (fun i hi e => hin (e ▸ getD_mem P i hi))] at hcv
                    have hpl := low_out (unhide HDN) v hlt hin hr'
                    subst hpl
                    clear hr' hin
                    go_wp2_with fail
                    go_round
                    case rel => exact ⟨v + 1, by omega, by go_num⟩
                    case measure => simp [intOf]; omega
            · have hge : ¬ (v : Int) < (n : Int) := by omega
              go_wp2_with fail
              go_ret
              exact ⟨rfl, unhide HB6⟩
end Go.Proofs.Qxb6615102a
