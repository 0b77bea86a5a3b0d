import Derived.Test.Qxb6615102aGrownParts
namespace Go.Proofs.Qxb6615102a
open Go.RowKit
set_option linter.unusedVariables false

/-- The cells that 'append(l, adj[i]...)' takes. -/
theorem src_cells {w : World} {B : Nat} {xs : List Nat} {ai : Option Addr} (hc : ∀ t, t < xs.length → ∃ b o, ai = some ⟨b, o, none⟩ ∧ b < B ∧ w.cell? ⟨b, o + t, none⟩ = some (.int .i64 ((xs.getD t 0 : Nat) : Int))) {w' : World} (hb : Below B w w') :
    ∀ ad, ai = some ad → ∀ j u, ((ints xs).map (Value.int .i64))[j]? = some u → w'.cell? (ad.add j) = some u := by
  intro ad had j u hu
  have hj : j < xs.length := by
    have := (List.getElem?_eq_some_iff.1 hu).1
    simpa [ints_len] using this
  obtain ⟨b, o, e, h1, h2⟩ := hc j hj
  rw [e] at had
  obtain rfl := Option.some.inj had
  rw [Addr.add_lit, hb.cell (p := ⟨b, o + j, none⟩) h1, h2]
  rw [List.getElem?_map] at hu
  have e2 : (ints xs)[j]? = some ((xs.getD j 0 : Nat) : Int) := by
    rw [← ints_getD xs j hj, List.getD_eq_getElem?_getD, List.getElem?_eq_getElem (by rw [ints_len]; exact hj)]; rfl
  rw [e2] at hu
  exact hu
theorem ints_app (a b : List Nat) : (ints (a ++ b)).map (Value.int .i64) = (ints a).map (Value.int .i64) ++ (ints b).map (Value.int .i64) := by simp [ints]
theorem ints_one (a : List Nat) : ∀ u ∈ (ints a).map (Value.int .i64), u.oneCell' = true := by
  intro u hu
  obtain ⟨x, _, rfl⟩ := List.mem_map.1 hu
  rfl

theorem Own.reads {w : World} {base O m cap : Nat} {P : List Nat} (h : Own w base (.slice (some ⟨O, 0, none⟩) m cap) (ints P)) (hm : m = P.length) : ∀ t, t < P.length → w.cell? ⟨O, t, none⟩ = some (.int .i64 ((P.getD t 0 : Nat) : Int)) := by
  intro t ht
  subst hm
  obtain ⟨g, c, hv, _, _, _, hc, _⟩ := h.shape (by rw [ints_len]; omega)
  simp only [Value.slice.injEq, Option.some.injEq, Addr.mk.injEq, and_true] at hv
  obtain ⟨rfl, _⟩ := hv
  rw [hc t (by rw [ints_len]; exact ht), ints_getD _ _ ht]

set_option maxHeartbeats 4000000 in
theorem fresh_any (m : Int) (ao : Option Addr) (N cap : Nat) (sv : Nat → Value) (E : Nat → List Int) (w : World) (h : LL w ao N sv E) :
    Calls Try.prog 4 #[.int .i64 m, .slice ao N cap] w fun e w' => e = .returned (.bool true) ∧ Below w.heap.size w w' := by
  obtain ⟨i3, hi3, hz30, hz31, hz32⟩ := info_parts info3
  obtain ⟨i25, hi25, hz250, hz251, hz252⟩ := info_parts info25
  have HLL := hide h
  clear h
  go_enter Try.func4, Try.ntmps4
  go_wp2_with fail
  refine (bytes11_any m ao N cap sv E w (unhide HLL)).mono ?_
  rintro e w' ⟨r, rfl, rfl⟩
  cases r
  · go_wp2
    go_ret
    exact ⟨rfl, Below.refl _ _⟩
  go_wp2_with fail
  refine (big_any ao N cap sv E w (unhide HLL)).mono ?_
  rintro e w' ⟨r, rfl, hbig, rfl⟩
  cases r
  rotate_left
  · go_wp2
    go_ret
    exact ⟨rfl, Below.refl _ _⟩
  obtain ⟨hN, hsum⟩ := hbig rfl
  clear hbig
  go_wp2_with fail
  refine (dom_any m ao N cap sv E w (unhide HLL)).mono ?_
  rintro e w' ⟨r, rfl, hdom, rfl⟩
  cases r
  · go_wp2
    go_ret
    exact ⟨rfl, Below.refl _ _⟩
  obtain ⟨hm0, hm1, hmN, hd⟩ := hdom rfl
  clear hdom
  obtain ⟨n, rfl⟩ := Int.eq_ofNat_of_zero_le hm0
  have hn1 : n ≤ 65536 := by omega
  have hnN : n ≤ N := by omega
  have hd' : ∀ i, i < n → ∀ x, x ∈ E i → 0 ≤ x ∧ x < (n : Int) := fun i hi => hd i (by omega)
  have HD := hide hd'
  have HRV := hide ((unhide HLL).rows (cap := cap) n hnN hN hd')
  have hsD : sumLen (nats E) n ≤ 131072 := by rw [nats_sum]; exact Nat.le_trans (sumI_mono E n N hnN) hsum
  have HLT : Hid (∀ i, i < n → ∀ j, j ∈ nats E i → j < n) := hide (fun i hi => nats_mem E n i (hd' i hi))
  clear hd hd' hm0 hm1 hmN
  go_wp2_with (at_make; refine wpList_make_full _ rfl (.tmp 22) (.tmp 22) 22 rfl w.heap.size 25 i25 (.slice none 0 0) 1 Try.underlying22 hi25 hz250 hz251 _ _ _ _ (n + 1) rfl rfl (by omega) (by omega) ?b2 ?b3 (Nat.le_refl _) ?_)
  case b2 => rw [hz252]; omega
  case b3 => unfold maxLen; omega
  intro w1 hown1 hgrow1
  have hG1 : RowAt w1 w.heap.size 25 (n + 1) (fun _ => .slice none 0 0) := made_row hown1
  have HG : Hid (Gr w n (nats E) w1 0) := hide ⟨(Below.refl _ _).grown hgrow1 (Nat.le_refl _) (by intro k hk; cases hk), _, hG1, fun k hk => absurd hk (Nat.not_lt_zero k)⟩
  clear hown1 hgrow1 hG1
  go_wp2_with fail
  go_loopw [6] (fun x wr => ∃ i : Nat, i ≤ n ∧ x = .int .i64 i ∧ Hid (Gr w n (nats E) wr i)) (fun x _ => n - (intOf x).toNat)
  case atStart => exact ⟨0, Nat.zero_le _, rfl, HG⟩
  case round =>
    clear HG
    obtain ⟨i, hi, rfl, hg⟩ := hrel
    by_cases hlt : i < n
    · have hlt2 : (i : Int) < (n : Int) := by omega
      have hiN : (i : Int) < (N : Int) := by omega
      obtain ⟨b, off, rfl, hbb, hce, hsl⟩ := (unhide HLL).2 i (by omega)
      have hslA := hsl.slAt (fun x hx => (unhide HD i hlt x hx).1)
      obtain ⟨ai, ci, hsv, _, hcap, _⟩ := hsl
      obtain ⟨ai2, ci2, hsv2, hcells⟩ := hslA
      have hlenD := nats_len E i
      rw [hsv] at hce hsv2
      simp only [Value.slice.injEq] at hsv2
      obtain ⟨rfl, hlen2, rfl⟩ := hsv2
      rw [hlen2] at hce
      have hsumi : (nats E i).length ≤ 131072 := Nat.le_trans (len_le_sum (nats E) i n hlt) hsD
      have hbel := (unhide hg).below
      have hcr : wr.cell? ⟨b, off + i, none⟩ = some (.slice ai (nats E i).length ci) := (hbel.cell (p := ⟨b, off + i, none⟩) hbb).trans hce
      have HCE := hide hcells
      have hnone : Hid (ai = none → (nats E i).length = 0 ∧ ci = 0) := hide (by
        intro e
        refine ⟨?_, hcap e⟩
        rcases Nat.eq_zero_or_pos (nats E i).length with h0 | h0
        · exact h0
        · obtain ⟨b2, o2, e2, _⟩ := hcells 0 h0
          rw [e] at e2
          cases e2)
      have HBEL := hide hbel
      clear hcells hce hsv hcap hlen2 hlenD hbel
      generalize hDi : nats E i = xs at *
      have HDI := hide hDi
      clear hDi
      go_wp2_with (at_make; refine wpList_make_own _ rfl _ _ 25 rfl wr.heap.size 3 i3 (.int .i64 0) 1 Try.underlying25 hi3 hz30 hz31 _ _ _ (2 * xs.length) rfl rfl (by omega) ?c2 ?c3 (Nat.le_refl _) ?_)
      case c2 => rw [hz32]; omega
      case c3 => unfold maxLen; omega
      intro w2 hown2 hgrow2
      have hB2 : Below w.heap.size w w2 := (unhide HBEL).grown hgrow2 (unhide HBEL).size (by intro k hk; cases hk)
      have hF2 : Frm (fun k => wr.heap.size ≤ k) wr w2 := (Frm.refl _ wr).grown hgrow2 (by intro k hk; cases hk)
      have hcr2 : w2.cell? ⟨b, off + i, none⟩ = some (.slice ai xs.length ci) := (World.cell?_of_block (w := wr) (hgrow2.block b (World.block_lt_of_cell? wr _ hcr) (by simp))).trans hcr
      clear hgrow2
      go_wp2_with (at_builtin; refine wpList_append_fits_any _ rfl (.tmp 36) (.tmp 40) 25 rfl wr.heap.size 3 i3 1 Try.underlying25 hi3 hz31 wr.heap.size 0 (2 * xs.length) [] rfl hown2 ai xs.length ci ((ints xs).map (Value.int .i64)) rfl (by simp [ints_len]) (unhide hnone) (src_cells (unhide HCE) hB2) (ints_one xs) (by omega) ?_)
      intro w3 hown3 hgrow3
      try simp only [Nat.zero_add, List.nil_append] at hown3
      have hB3 : Below w.heap.size w w3 := hB2.grown hgrow3 hB2.size (by intro k hk; obtain rfl := Option.some.inj hk; exact (unhide HBEL).size)
      have hF3 : Frm (fun k => wr.heap.size ≤ k) wr w3 := hF2.grown hgrow3 (by intro k hk; obtain rfl := Option.some.inj hk; exact Nat.le_refl _)
      have hcr3 : w3.cell? ⟨b, off + i, none⟩ = some (.slice ai xs.length ci) := hgrow3.cell hcr2 (by intro e; have e' : b = wr.heap.size := Option.some.inj e; have := (unhide HBEL).size; omega)
      clear hgrow3 hown2 hB2 hF2 hcr2
      go_wp2_with (at_builtin; refine wpList_append_fits_any _ rfl (.tmp 42) (.tmp 46) 25 rfl wr.heap.size 3 i3 1 Try.underlying25 hi3 hz31 wr.heap.size xs.length (2 * xs.length) ((ints xs).map (Value.int .i64)) rfl hown3 ai xs.length ci ((ints xs).map (Value.int .i64)) rfl (by simp [ints_len]) (unhide hnone) (src_cells (unhide HCE) hB3) (ints_one xs) (by omega) ?_)
      intro w4 hown4 hgrow4
      have hF4 : Frm (fun k => wr.heap.size ≤ k) wr w4 := hF3.grown hgrow4 (by intro k hk; obtain rfl := Option.some.inj hk; exact Nat.le_refl _)
      rw [← ints_app] at hown4
      have hsl4 : SlG w4 w.heap.size (.slice (some ⟨wr.heap.size, 0, none⟩) (xs.length + xs.length) (2 * xs.length)) (xs ++ xs) := own_slg hown4 (by simp) (by
        obtain ⟨_, gs, hr, _⟩ := unhide hg
        exact hr.lt)
      have hst4 := (unhide hg).store hi hF4 (by rw [unhide HDI]; exact hsl4)
      obtain ⟨hn4, hf4, hg4⟩ := hst4
      obtain ⟨u4, hu4⟩ : ∃ u, w4.cell? ⟨w.heap.size, i, none⟩ = some u := Option.ne_none_iff_exists'.1 hn4
      have HG4 := hide hg4
      clear hn4 hg4 hsl4 hF4 hF3 hown4 hown3 hgrow4 hB3 hcr3
      go_wp2_with fail
      go_roundw
      case rel => exact ⟨i + 1, by omega, by go_num, HG4⟩
      case measure => simp [intOf]; omega
    · have hge : ¬ (i : Int) < (n : Int) := by omega
      obtain rfl : n = i := by omega
      obtain ⟨hbel, gs, hgr, hgs⟩ := unhide hg
      have hgl := hgr.lt
      have hcg := (hgr.same (w' := wr.alloc (.cells #[] 3)) (Below.heap_alloc _ _ _ hgl)).cell n (by omega)
      have hfg := (hgr.same (w' := wr.alloc (.cells #[] 3)) (Below.heap_alloc _ _ _ hgl)).free n
      obtain ⟨hBB, hszB, gs', hrowB⟩ := (unhide hg).whole hn1
      have CA := hide (lists_any n ao N cap sv (nats E) _ (by omega) (((unhide HRV).below hBB (Nat.le_refl _)).mono hBB.size) (unhide HLT) (by omega))
      have HBB := hide hBB
      have HRB := hide hrowB
      have HSB := hide hszB
      clear hbel hgr hgs hBB hrowB hszB hg
      go_wp2_with fail
      refine (unhide CA).mono ?_
      rintro e wC ⟨O1, P, rfl, hdn, hO1, hownP, hbC⟩
      have hCB := hide ((unhide HBB).trans (hbC.mono (Nat.le_of_lt (unhide HSB))))
      have hPl : P.length ≤ n := nodup_len n P (run_nodup n _ P hdn.1) (run_lt n _ P hdn.1)
      have hdn2 := fresh_last n (nats E) (dup (nats E) n) P hdn (fun k hk j => dup_mem (nats E) n k hk j) (unhide HLT) (dup_n _ _)
      have hlt2 : ∀ i, i < n + 1 → ∀ j, j ∈ dup (nats E) n i → j < n + 1 := by
        intro i hi j hj
        by_cases e : i < n
        · have := unhide HLT i e j ((dup_mem (nats E) n i e j).1 hj)
          omega
        · rw [show i = n by omega, dup_n] at hj
          exact absurd hj List.not_mem_nil
      have hsum2 : sumLen (dup (nats E) n) (n + 1) ≤ 1000000 := by
        rw [sumLen_succ, dup_sum _ _ n (Nat.le_refl _), dup_n, List.length_nil]; omega
      have cb := lists_any (n + 1) (some ⟨w.heap.size, 0, none⟩) (n + 1) (n + 1) gs' (dup (nats E) n) wC (by omega) (((unhide HRB).below hbC (Nat.le_refl _)).mono hbC.size) hlt2 hsum2
      rw [show ((n + 1 : Nat) : Int) = (n : Int) + 1 from by omega] at cb
      have CB := hide cb
      have HOW := hide hownP
      have HDN := hide hdn2
      clear cb hbC hdn hdn2 hownP hsum2 hlt2 CA HRB HSB HBB
      go_wp2_with fail
      refine (unhide CB).mono ?_
      rintro e wD ⟨O2, P2, rfl, hdnB, hO2, hownB, hbD⟩
      obtain rfl := done_unique _ _ _ _ hdnB (unhide HDN)
      have hO1l : O1 < wC.heap.size := ((unhide HOW).lt O1 rfl).2
      have hca : ∀ t, t < P.length → wD.cell? ⟨O1, t, none⟩ = some (.int .i64 ((P.getD t 0 : Nat) : Int)) := fun t ht => (hbD.cell (p := ⟨O1, t, none⟩) hO1l).trans ((unhide HOW).reads rfl t ht)
      have hcb := hownB.reads rfl
      have hcb1 : ∀ t, t < P.length → wD.cell? ⟨O2, t, none⟩ = some (.int .i64 ((P.getD t 0 : Nat) : Int)) := fun t ht => by
        rw [hcb t (by simp; omega)]
        congr 3
        rw [List.getD_eq_getElem?_getD, List.getElem?_append_left ht, ← List.getD_eq_getElem?_getD]
      have hcb2 : wD.cell? ⟨O2, P.length, none⟩ = some (.int .i64 (n : Int)) := by
        rw [hcb P.length (by simp)]
        simp
      rw [show (P ++ [n]).length = P.length + 1 by simp]
      have HBD := hide ((unhide hCB).trans (hbD.mono (unhide hCB).size))
      have HCA := hide hca
      have HCB1 := hide hcb1
      have HCB2 := hide hcb2
      clear hdnB hownB hbD hca hcb hcb1 hcb2 HOW HDN hCB CB
      go_wp2_with fail
      go_loopw [10] (fun x wr => ∃ t : Nat, t ≤ P.length ∧ x = .int .i64 t ∧ Hid (∃ q, wr = wD.drewN q)) (fun x _ => P.length - (intOf x).toNat)
      case atStart => exact ⟨0, Nat.zero_le _, rfl, ⟨0, rfl⟩⟩
      case round =>
        obtain ⟨t, ht, rfl, hq⟩ := hrel
        have hcell : ∀ {a : Addr} {u : Value}, wD.cell? a = some u → wr.cell? a = some u := by
          intro a u hu
          obtain ⟨q, rfl⟩ := hq
          simpa using hu
        by_cases htl : t < P.length
        · have htl2 : (t : Int) < (P.length : Int) := by omega
          have c1 := hcell (unhide HCA t htl)
          have c2 := hcell (unhide HCB1 t htl)
          obtain ⟨y, hy⟩ : ∃ y, P.getD t 0 = y := ⟨_, rfl⟩
          rw [hy] at c1 c2
          clear hy hcell
          go_wp2_with fail
          go_quiet (fail)
          go_wp2_with fail
          go_roundw
          case rel => exact ⟨t + 1, by omega, by go_num, drawn_more hq _⟩
          case measure => simp [intOf]; omega
        · have htl2 : ¬ (t : Int) < (P.length : Int) := by omega
          have c2 := hcell (unhide HCB2)
          clear hcell
          go_wp2_with fail
          go_ret
          refine ⟨rfl, ?_⟩
          obtain ⟨q, rfl⟩ := hq
          exact ⟨(unhide HBD).os, (unhide HBD).tape, (unhide HBD).output, (unhide HBD).size, (unhide HBD).block⟩
end Go.Proofs.Qxb6615102a
