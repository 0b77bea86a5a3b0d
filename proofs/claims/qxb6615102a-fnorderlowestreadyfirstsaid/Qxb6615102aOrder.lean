import Derived.Test.Qxb6615102aOrderPartsB
namespace Go.Proofs.Qxb6615102a
open Go.RowKit
set_option linter.unusedVariables false

/-- What Order hands back: the whole run. -/
def OrdPost (n : Nat) (D : Nat → List Nat) (w : World) (e : Ending) (w' : World) : Prop :=
  ∃ (O : Nat) (P : List Nat), e = .returned (.slice (some ⟨O, 0, none⟩) P.length n) ∧ Done n D P ∧ w.heap.size ≤ O ∧ Own w' 0 (.slice (some ⟨O, 0, none⟩) P.length n) (ints P) ∧ Below w.heap.size w w'

set_option maxHeartbeats 4000000 in
theorem order_any (n C : Nat) (vl : Value) (sv : Nat → Value) (D : Nat → List Nat) (w : World) (hn : n ≤ 65537) (hC : C < w.heap.size) (hc : w.cell? ⟨C, 0, none⟩ = some vl)
    (hr : RowsV w w.heap.size vl n sv D) (hlt : ∀ i, i < n → ∀ j, j ∈ D i → j < n) (hs : sumLen D n ≤ 1000000) :
    Calls Try.prog 12 #[.int .i64 n, .func (.func 13) #[] #[.pointer (some ⟨C, 0, none⟩)]] w fun e w' => OrdPost n D w e w' := by
  obtain ⟨i3, hi3, hz30, hz31, hz32⟩ := info_parts info3
  obtain ⟨i25, hi25, hz250, hz251, hz252⟩ := info_parts info25
  have HC := hide hc
  have HR := hide hr
  have HLT := hide hlt
  clear hc hr hlt
  go_enter Try.func12, Try.ntmps12
  go_wp2_with (at_make; refine wpList_make_full _ rfl (.tmp 16) (.tmp 16) 25 rfl w.heap.size 3 i3 (.int .i64 0) 1 Try.underlying25 hi3 hz30 hz31 _ _ _ _ n rfl rfl rfl rfl ?b2 ?b3 (Nat.le_refl _) ?_)
  case b2 => rw [hz32]; omega
  case b3 => unfold maxLen; omega
  intro w1 hown1 hgrow1
  have hB1 : Below w.heap.size w w1 := (Below.refl _ _).grown hgrow1 (Nat.le_refl _) (by intro k hk; cases hk)
  have hW1 : RowAt w1 w.heap.size 3 n (fun _ => .int .i64 0) := made_row hown1
  clear hown1 hgrow1
  have hs1 := hW1.lt
  go_wp2_with (at_make; refine wpList_make_full _ rfl (.tmp 18) (.tmp 18) 22 rfl (w.heap.size + 1) 25 i25 (.slice none 0 0) 1 Try.underlying22 hi25 hz250 hz251 _ _ _ _ n rfl rfl rfl rfl ?d2 ?d3 (by omega) ?_)
  case d2 => rw [hz252]; omega
  case d3 => unfold maxLen; omega
  intro w2 hown2 hgrow2
  have hN2 : RowAt w2 w1.heap.size 25 n (fun _ => .slice none 0 0) := made_row hown2
  have hst : St1 w w1.heap.size n D w2 0 0 := by
    refine ⟨hB1.grown hgrow2 (by omega) (by intro k hk; cases hk), ?_, ⟨fun _ => .slice none 0 0, hN2, fun j _ => by rw [nt_zero]; exact Own.nil _ _, fun i j k _ _ _ hk => by cases hk⟩, hN2.lt, hs1⟩
    refine (hW1.same (hgrow2.block _ hs1 (by simp))).congr (fun k _ => ?_)
    unfold wt
    simp
  clear hown2 hgrow2 hN2 hW1 hB1
  obtain ⟨Nb, hNb⟩ : ∃ Nb, Nb = w1.heap.size := ⟨_, rfl⟩
  rw [← hNb] at hst hs1 ⊢
  have HST := hide hst
  clear hst hNb
  go_wp2_with fail
  go_loopw [21] (fun x wr => ∃ i : Nat, i ≤ n ∧ x = .int .i64 i ∧ Hid (St1 w Nb n D wr i 0)) (fun x _ => n - (intOf x).toNat)
  case atStart => exact ⟨0, Nat.zero_le _, rfl, HST⟩
  case round =>
    obtain ⟨i, hi, rfl, hst⟩ := hrel
    by_cases hlt : i < n
    · have hlt2 : (i : Int) < (n : Int) := by omega
      have hb := (unhide hst).below
      obtain ⟨b, off, N, cap, hvl, hbB, hiN, hNN, hrc, ao, rc, hsv, hrow⟩ := unhide HR i hlt
      have hca : wr.cell? ⟨C, 0, none⟩ = some (.slice (some ⟨b, off, none⟩) N cap) := by
        rw [← hvl]; exact (hb.cell (p := ⟨C, 0, none⟩) hC).trans (unhide HC)
      have CA := hide (after_any C b off N cap i (sv i) wr hNN hiN hca ((hb.cell (p := ⟨b, off + i, none⟩) hbB).trans hrc))
      rw [hsv] at CA
      have HROW := hide hrow
      clear hca hsv hrow hb hvl hrc
      go_wp2_with fail
      refine (unhide CA).mono ?_
      rintro e w3 ⟨rfl, hw3⟩
      obtain rfl := hw3.symm
      go_wp2_with fail
      go_loopw [28] (fun x wr => ∃ t : Nat, t ≤ (D i).length ∧ x = .int .i64 t ∧ Hid (St1 w Nb n D wr i t)) (fun x _ => (D i).length - (intOf x).toNat)
      case atStart => exact ⟨0, Nat.zero_le _, rfl, hst⟩
      case round =>
        clear hst CA
        obtain ⟨t, ht, rfl, hst⟩ := hrel
        have hlen : (D i).length ≤ 1000000 := Nat.le_trans (len_le_sum D i n hlt) hs
        by_cases htl : t < (D i).length
        · have htl2 : (t : Int) < ((D i).length : Int) := by omega
          obtain ⟨b', o', rfl, hbb, hcell⟩ := unhide HROW t htl
          have hce := ((unhide hst).below.cell (p := ⟨b', o' + t, none⟩) hbb).trans hcell
          have hjn : (D i).getD t 0 < n := unhide HLT i hlt _ (getD_mem (D i) t htl)
          obtain ⟨v, g', n', c', w4, q1, q2, q3, q4, q5, q6, q7⟩ := st1_step (unhide hst) hlt htl hjn hs
          have Q4 := hide q4
          have Q7 := hide q7
          clear q4 q7 hcell
          obtain ⟨j, hj⟩ : ∃ j, j = (D i).getD t 0 := ⟨_, rfl⟩
          rw [← hj] at hjn hce q3 q5 q6 Q7
          have HJ := hide hj
          clear hj
          go_wp2_with (at_builtin; refine wpList_append_run rfl (.tmp 43) (.tmp 45) 25 rfl _ _ (.slice (some ⟨g', 0, none⟩) n' c') w4 rfl rfl (unhide Q4) ?_)
          go_roundw
          case rel => exact ⟨t + 1, by omega, by go_num, Q7⟩
          case measure => simp [intOf]; omega
        · have htl2 : ¬ (t : Int) < ((D i).length : Int) := by omega
          have et : t = (D i).length := by omega
          have HN1 := hide ((et ▸ unhide hst : St1 w Nb n D wr i (D i).length)).next_row
          clear hst et
          go_wp2_with fail
          go_roundw
          case rel => exact ⟨i + 1, by omega, by go_num, HN1⟩
          case measure => simp [intOf]; omega
    · have hge : ¬ (i : Int) < (n : Int) := by omega
      obtain rfl : n = i := by omega
      have HS2 := hide (st2_start (unhide hst))
      obtain ⟨wA, hwA⟩ : ∃ wA, wA = wr := ⟨wr, rfl⟩
      rw [← hwA] at HS2 hst ⊢
      clear hwA
      go_wp2_with fail
      go_loopw [53] (fun x wr => ∃ (i : Nat) (v : Value) (zs : List Int), i ≤ n ∧ x = .int .i64 i ∧ Hid (St2 w wA n (wA.heap.size + 1) wr (fun k => ((D k).length : Int)) v zs) ∧ Hid (Holds zs (fun k => k < i ∧ D k = []))) (fun x _ => n - (intOf x).toNat)
      case atStart => exact ⟨0, _, [], Nat.zero_le _, rfl, HS2, holds_nil _ (fun k h => absurd h.1 (Nat.not_lt_zero k))⟩
      case round =>
        clear HS2
        obtain ⟨i, v, zs, hi, rfl, hs2, hho⟩ := hrel
        by_cases hlt : i < n
        · have hlt2 : (i : Int) < (n : Int) := by omega
          have hcw := (unhide hs2).waits.cell i hlt
          cases hz : (((D i).length : Int) == 0)
          · have HD : Hid (D i ≠ []) := hide (fun e => by rw [e] at hz; cases hz)
            go_wp2_with fail
            go_roundw
            case rel => 
              refine ⟨i + 1, v, zs, by omega, by go_num, hs2, holds_congr (unhide hho) (fun k => ?_)⟩
              constructor
              · rintro ⟨h1, h2⟩; exact ⟨by omega, h2⟩
              · rintro ⟨h1, h2⟩
                have : k ≠ i := fun e => unhide HD (e ▸ h2)
                exact ⟨by omega, h2⟩
            case measure => simp [intOf]; omega
          · have HD : Hid (D i = []) := hide (List.eq_nil_of_length_eq_zero (by have := beq_iff_eq.1 hz; omega))
            have hll := holds_len (n := n) (unhide hho) (fun k h => by omega)
            have hll2 := holds_len (n := i) (unhide hho) (fun k h => h.1)
            have CP := hide (hpPush_any (wA.heap.size + 1) v zs (i : Int) wr (unhide hs2).heap (by omega) (unhide hs2).hp)
            go_wp2_with fail
            refine (unhide CP).mono ?_
            rintro e w3 ⟨rfl, v', zs', ha', hp', hh', hf', hv'⟩
            have HS3 := hide ((unhide hs2).push ha' hh' hf' hv')
            have HHO := hide (holds_push (unhide hho) (fun h => Nat.lt_irrefl _ h.1) hp')
            clear ha' hh' hf' hv' hp'
            go_wp2_with fail
            go_roundw
            case rel => 
              refine ⟨i + 1, v', zs', by omega, by go_num, HS3, holds_congr (unhide HHO) (fun k => ?_)⟩
              constructor
              · rintro (⟨h1, h2⟩ | rfl)
                · exact ⟨by omega, h2⟩
                · exact ⟨by omega, unhide HD⟩
              · rintro ⟨h1, h2⟩
                by_cases e : k = i
                · exact Or.inr e
                · exact Or.inl ⟨by omega, h2⟩
            case measure => simp [intOf]; omega
        · have hge : ¬ (i : Int) < (n : Int) := by omega
          obtain rfl : n = i := by omega
          go_wp2_with (at_make; refine wpList_make_own _ rfl _ _ 25 rfl wr.heap.size 3 i3 (.int .i64 0) 1 Try.underlying25 hi3 hz30 hz31 _ _ _ n rfl rfl rfl ?f2 ?f3 (Nat.le_refl _) ?_)
          case f2 => omega
          case f3 => unfold maxLen; omega
          intro w3 hown3 hgrow3
          have HS3 := hide (st3_start (unhide hs2) hown3 hgrow3)
          clear hown3 hgrow3 hs2
          obtain ⟨O, hO⟩ : ∃ O, O = wr.heap.size := ⟨_, rfl⟩
          rw [← hO] at HS3 ⊢
          clear hO
          go_wp2_with fail
          go_loopw [12] (fun o wr => ∃ (P : List Nat) (v : Value) (zs : List Int), o = .slice (some ⟨O, 0, none⟩) P.length n ∧ Hid (St3 w wA n (wA.heap.size + 1) O wr (fun k => (cnt D k P : Int)) v zs P) ∧ Hid (Holds zs (Ready n D P)) ∧ Hid (IsRun n D P)) (fun o _ => n - sliceLen o)
          case atStart =>
            refine ⟨[], v, zs, rfl, (unhide HS3).congr (fun k _ => by rw [cnt_nil]), holds_congr (unhide hho) (fun k => ?_), run_nil n D⟩
            unfold Ready
            constructor
            · rintro ⟨h1, h2⟩; exact ⟨h1, List.not_mem_nil, fun j hj => by rw [h2] at hj; exact absurd hj List.not_mem_nil⟩
            · rintro ⟨h1, _, h3⟩; exact ⟨h1, List.eq_nil_iff_forall_not_mem.2 (fun j hj => absurd (h3 j hj) List.not_mem_nil)⟩
          case round =>
            clear HS3 hho
            obtain ⟨P, v, zs, rfl, hs3, hho, hrun⟩ := hrel
            have hcH := (unhide hs3).st.heap.cell
            have CL := hide (hlen_any (wA.heap.size + 1) v zs wr (unhide hs3).st.heap)
            have hzl := holds_len (n := n) (unhide hho) (fun k h => h.1)
            rcases Nat.eq_zero_or_pos zs.length with hz0 | hz0
            · have hz : Hid (zs = []) := hide (List.eq_nil_of_length_eq_zero hz0)
              rw [hz0] at CL
              go_wp2_with fail
              refine (unhide CL).mono ?_
              rintro e w4 ⟨rfl, hw4⟩
              obtain rfl := hw4.symm
              go_wp2_with fail
              go_ret
              refine ⟨O, P, rfl, ⟨unhide hrun, fun k hk => ?_⟩, ?_, (unhide hs3).ord, ?_⟩
              · have := ((unhide hho).2 (k : Int)).2 ⟨k, rfl, hk⟩
                rw [unhide hz] at this
                exact absurd this List.not_mem_nil
              · have := (unhide hs3).lo
                have := (unhide hs3).st.lt
                omega
              · refine (unhide hst).below.trans ((unhide hs3).st.frm.below (Nat.le_of_lt (unhide hs3).st.lt) (fun k hk => ?_))
                have := (unhide hs3).st.lt
                omega
            · have hz2 : (0 : Int) < (zs.length : Int) := by omega
              have CP := hide (hpPop_any (wA.heap.size + 1) v zs wr (unhide hs3).st.heap (by omega) hz0 (unhide hs3).st.hp)
              go_wp2_with fail
              refine (unhide CL).mono ?_
              rintro e w4 ⟨rfl, hw4⟩
              obtain rfl := hw4.symm
              go_wp2_with fail
              refine (unhide CP).mono ?_
              rintro e w5 ⟨x, rfl, hmin, v5, zs5, ha5, hp5, hh5, hf5, hv5⟩
              obtain ⟨a, rfl, hra, hla, hho5⟩ := holds_pop (unhide hho) hp5 hmin
              have HS5 := hide ((unhide hs3).push ha5 hh5 hf5 (Or.inl hv5))
              have HO5 := hide (holds_congr hho5 (mid_start n D P a))
              have HRA := hide hra
              have HR2 := hide (run_snoc n D P a (unhide hrun) ⟨hra, hla⟩)
              have hPn : P.length < n := by
                have := nodup_len n (P ++ [a]) (run_nodup n D _ (unhide HR2)) (run_lt n D _ (unhide HR2))
                rw [List.length_append, List.length_singleton] at this
                omega
              have han : a < n := hra.1
              clear hmin ha5 hp5 hh5 hf5 hv5 hho5 hra hla hcH CL CP hs3 hho
              obtain ⟨w6, hap6, hs6⟩ := (unhide HS5).append a hPn
              have HAP := hide hap6
              have HS6 := hide hs6
              clear hap6 hs6
              obtain ⟨ao, cap', hcn, hNlt, hNgt, hcells⟩ := next_reads (unhide hst) a han
              have hcn6 : w6.cell? ⟨Nb, a, none⟩ = some (.slice ao (nx D n a).length cap') := ((unhide HS6).st.frm.cell hNlt (by omega)).trans hcn
              have HCE := hide hcells
              have hta := tassert (a : Int)
              have hnxl : (nx D n a).length ≤ 1000000 := Nat.le_trans (nx_le D a n) hs
              clear hcn hcells HS5
              go_wp2_with (at_builtin; refine wpList_append_run rfl (.tmp 78) (.tmp 80) 25 rfl _ _ (.slice (some ⟨O, 0, none⟩) (P.length + 1) n) w6 rfl rfl (unhide HAP) ?_)
              go_loopw [87] (fun x wr => ∃ (t : Nat) (v : Value) (zs : List Int), t ≤ (nx D n a).length ∧ x = .int .i64 t ∧ Hid (St3 w wA n (wA.heap.size + 1) O wr (wm n D P a t) v zs (P ++ [a])) ∧ Hid (Holds zs (Mid n D P a t))) (fun x _ => (nx D n a).length - (intOf x).toNat)
              case atStart => exact ⟨0, v5, zs5, Nat.zero_le _, rfl, (unhide HS6).congr (fun k _ => wm_zero n D P a k), HO5⟩
              case round =>
                clear HS6 HO5 HAP hcn6
                obtain ⟨t, v, zs, ht, rfl, hs3, hho⟩ := hrel
                by_cases htl : t < (nx D n a).length
                · have htl2 : (t : Int) < ((nx D n a).length : Int) := by omega
                  obtain ⟨g, rfl, hg1, hg2, hgc⟩ := unhide HCE t htl
                  have hce : wr.cell? ⟨g, t, none⟩ = some (.int .i64 (((nx D n a).getD t 0 : Nat) : Int)) := ((unhide hs3).st.frm.cell hg2 (by omega)).trans hgc
                  obtain ⟨k1, c, e1, e2, hk1, hc1, hc2, hup, hnm, hyes, hno⟩ := mid_facts (unhide hrun) (unhide HRA) htl hs
                  rw [e1] at hce
                  have hcw := (unhide hs3).st.waits.cell k1 hk1
                  have hfw := (unhide hs3).st.waits.free k1
                  rw [e2] at hcw
                  have HS4 := hide (((unhide hs3).store k1 (c - 1)).congr (fun k _ => hup k))
                  have hcw2 : (wr.setCell ⟨w.heap.size, k1, none⟩ (.int .i64 (c - 1))).cell? ⟨w.heap.size, k1, none⟩ = some (.int .i64 (c - 1)) := by
                    have := ((unhide hs3).store k1 (c - 1)).st.waits.cell k1 hk1
                    rw [this]; unfold updF; rw [if_pos rfl]
                  have hk1l : (k1 : Int) < (n : Int) := by omega
                  have HNM := hide hnm
                  clear hgc e1 e2 hup hnm hs3
                  cases hz : ((c - 1) == 0)
                  · have HM := hide (holds_congr (unhide hho) (hno (by simpa using hz)))
                    clear hyes hno hho
                    go_wp2_with fail
                    go_roundw
                    case rel => exact ⟨t + 1, v, zs, by omega, by go_num, HS4, HM⟩
                    case measure => simp [intOf]; omega
                  · have hzl := holds_len (n := n) (holds_push (unhide hho) (unhide HNM) (List.Perm.refl _)) (fun k h => by
                      rcases h with h | rfl
                      · exact h.1
                      · exact hk1)
                    rw [List.length_cons] at hzl
                    have HYES := hide (hyes (by simpa using hz))
                    have CP := hide (hpPush_any (wA.heap.size + 1) v zs (k1 : Int) _ (unhide HS4).st.heap (by omega) (unhide HS4).st.hp)
                    clear hyes hno hzl
                    go_wp2_with fail
                    refine (unhide CP).mono ?_
                    rintro e w7 ⟨rfl, v7, zs7, ha7, hp7, hh7, hf7, hv7⟩
                    have HS7 := hide ((unhide HS4).push ha7 hh7 hf7 hv7)
                    have HM := hide (holds_congr (holds_push (unhide hho) (unhide HNM) hp7) (unhide HYES))
                    clear ha7 hp7 hh7 hf7 hv7 hho HS4 CP
                    go_wp2_with fail
                    go_roundw
                    case rel => exact ⟨t + 1, v7, zs7, by omega, by go_num, HS7, HM⟩
                    case measure => simp [intOf]; omega
                · have htl2 : ¬ (t : Int) < ((nx D n a).length : Int) := by omega
                  have et : t = (nx D n a).length := by omega
                  subst et
                  have ha := (unhide HRA).2.1
                  have HF := hide ((unhide hs3).congr (fun k hk => wm_end n D P a k ha hk))
                  have HM := hide (holds_congr (unhide hho) (mid_end n D P a ha))
                  clear hs3 hho
                  go_wp2_with fail
                  go_roundw
                  case rel => exact ⟨P ++ [a], v, zs, by rw [List.length_append, List.length_singleton], HF, HM, HR2⟩
                  case measure => simp [sliceLen]; omega
end Go.Proofs.Qxb6615102a
