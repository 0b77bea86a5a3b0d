import Derived.Test.Qxb6615102aLevMem
namespace Go.Proofs.Qxb6615102a
open Go.RowKit
set_option linter.unusedVariables false

def LvPost (w : World) (P : List Nat) (e : Ending) (w' : World) : Prop :=
  ∃ K g cap, e = .returned (.slice (some ⟨g, 0, none⟩) (K + 1) cap) ∧ Lv w P w' K (.slice (some ⟨g, 0, none⟩) (K + 1) cap) ∧ P.length < 2 ^ (K + 1) ∧ K ≤ 70000
/-- The memory while one level is filled. -/
def Fl (P : List Nat) (wr : World) (s2 t : Nat) (wx : World) : Prop :=
  Frm (fun j => wr.heap.size ≤ j) wr wx ∧ ∃ c, RowAt wx wr.heap.size 3 (P.length + 1 - s2) c ∧ ∀ p, p < t → ∃ q, p ≤ q ∧ q < p + s2 ∧ c p = .int .i64 ((P.getD q 0 : Nat) : Int)
theorem Fl.store {P : List Nat} {wr wx : World} {s2 t : Nat} (h : Fl P wr s2 t wx) (ht : t + s2 ≤ P.length) (q : Nat) (h1 : t ≤ q) (h2 : q < t + s2) :
    wx.cell? ⟨wr.heap.size, t, none⟩ ≠ none ∧ wx.frozen? ⟨wr.heap.size, t, none⟩ = false ∧ Fl P wr s2 (t + 1) (wx.setCell ⟨wr.heap.size, t, none⟩ (.int .i64 ((P.getD q 0 : Nat) : Int))) := by
  obtain ⟨hf, c, hr, hc⟩ := h
  refine ⟨by rw [hr.cell t (by omega)]; simp, hr.free t, hf.setCell (Nat.le_refl _) _, _, hr.store t _, fun p hp => ?_⟩
  unfold upd
  by_cases e : p = t
  · subst e
    rw [if_pos rfl]
    exact ⟨q, h1, h2, rfl⟩
  · rw [if_neg e]
    exact hc p (by omega)

set_option maxHeartbeats 4000000 in
theorem levels_any (O cap base : Nat) (P : List Nat) (w : World) (h : Own w base (.slice (some ⟨O, 0, none⟩) P.length cap) (ints P)) (hP : P.length ≤ 65537) :
    Calls Try.prog 9 #[.slice (some ⟨O, 0, none⟩) P.length cap] w fun e w' => LvPost w P e w' := by
  obtain ⟨i3, hi3, hz30, hz31, hz32⟩ := info_parts info3
  have HS := hide (Lv.start h)
  clear h
  go_enter Try.func9, Try.ntmps9
  go_wp2_with fail
  go_loopw [4, 5] (fun x y wr => ∃ k s g cap : Nat, x = .slice (some ⟨g, 0, none⟩) (k + 1) cap ∧ y = .int .i64 s ∧ 1 ≤ s ∧ s ≤ 65537 ∧ k ≤ 65537 ∧ Hid (s = 2 ^ k) ∧ Hid (Lv w P wr k (.slice (some ⟨g, 0, none⟩) (k + 1) cap))) (fun _ y _ => P.length - (intOf y).toNat)
  case atStart => exact ⟨0, 1, w.heap.size, 1, rfl, rfl, Nat.le_refl _, by omega, by omega, hide rfl, HS⟩
  case round =>
    clear HS
    obtain ⟨k, s, g, lc, rfl, rfl, hs1, hs2, hk, hpow, hlv⟩ := hrel
    obtain ⟨wo, hwo⟩ : ∃ wo, wo = wr := ⟨_, rfl⟩
    subst hwo
    obtain ⟨s2, hs⟩ : ∃ s2 : Nat, s2 = 2 * s := ⟨_, rfl⟩
    have hsI : 2 * (s : Int) = (s2 : Int) := by omega
    by_cases hlt : s2 ≤ P.length
    · have hltI : (s2 : Int) ≤ (P.length : Int) := by omega
      obtain ⟨g', c', hv, hr⟩ := (unhide hlv).read
      simp only [Value.slice.injEq, Option.some.injEq, Addr.mk.injEq, and_true, true_and] at hv
      obtain ⟨rfl, rfl⟩ := hv
      obtain ⟨u, hcu, hwin⟩ := hr k (Nat.le_refl _)
      rw [← unhide hpow] at hwin
      obtain ⟨b, bc, rfl, hbl, hwr⟩ := hwin.read
      have HWR := hide hwr
      clear hr hwin hwr
      obtain ⟨L1, hL1⟩ : ∃ L1 : Nat, P.length + 1 - s = L1 := ⟨_, rfl⟩
      obtain ⟨L2, hL2⟩ : ∃ L2 : Nat, P.length + 1 - s2 = L2 := ⟨_, rfl⟩
      rw [hL1] at hcu
      have hL2I : (P.length : Int) - (s2 : Int) + 1 = (L2 : Int) := by omega
      have hsH := hide hs
      have hL1H : Hid (L1 + s = P.length + 1) := hide (by omega)
      have hL2H : Hid (L2 + s2 = P.length + 1) := hide (by omega)
      have hL2E := hide hL2
      have hL2b : L2 ≤ 65538 := by omega
      clear hs hL1 hL2
      go_wp2_with (at_make; refine wpList_make_full _ rfl (.tmp 30) (.tmp 30) 25 rfl wo.heap.size 3 i3 (.int .i64 0) 1 Try.underlying25 hi3 hz30 hz31 _ _ _ _ L2 rfl rfl (by omega) (by omega) ?b2 ?b3 (Nat.le_refl _) ?_)
      case b2 => rw [hz32]; omega
      case b3 => unfold maxLen; omega
      intro w1 hown1 hgrow1
      have hR1 : RowAt w1 wo.heap.size 3 L2 (fun _ => .int .i64 0) := made_row hown1
      have HF : Hid (Fl P wo s2 0 w1) := hide ⟨(Frm.refl _ wo).grown hgrow1 (by intro k hk; cases hk), _, by rw [unhide hL2E]; exact hR1, fun p hp => absurd hp (Nat.not_lt_zero p)⟩
      clear hown1 hgrow1 hR1
      go_wp2_with fail
      go_loopw [8] (fun x wr => ∃ t : Nat, t ≤ L2 ∧ x = .int .i64 t ∧ Hid (Fl P wo s2 t wr)) (fun x _ => L2 - (intOf x).toNat)
      case atStart => exact ⟨0, Nat.zero_le _, rfl, HF⟩
      case round =>
        clear HF
        obtain ⟨t, ht, rfl, hfl⟩ := hrel
        by_cases htl : t < L2
        · have htlI : (t : Int) + (s2 : Int) ≤ (P.length : Int) := by have := unhide hL2H; omega
          have htp : t + s2 ≤ P.length := by omega
          have htL : (t : Int) < (L2 : Int) := by omega
          have ht1 : (t : Int) < (L1 : Int) := by have := unhide hL1H; have := unhide hsH; omega
          obtain ⟨t2, ht2⟩ : ∃ t2 : Nat, t2 = t + s := ⟨_, rfl⟩
          have ht2I : (t : Int) + (s : Int) = (t2 : Int) := by omega
          have ht2L : (t2 : Int) < (L1 : Int) := by have := unhide hL1H; have := unhide hsH; omega
          obtain ⟨q1, ha1, hb1, hc1⟩ := unhide HWR t (by have := unhide hsH; omega)
          obtain ⟨q2, ha2, hb2, hc2⟩ := unhide HWR t2 (by have := unhide hsH; omega)
          have hfr := (unhide hfl).1
          have hcell : ∀ {j : Nat} {u : Value}, wo.cell? ⟨b, j, none⟩ = some u → wr.cell? ⟨b, j, none⟩ = some u := fun hu => (World.cell?_of_block (w := wo) (hfr.block b hbl (by omega))).trans hu
          have hd1 := hcell hc1
          have hd2 := hcell hc2
          obtain ⟨hn1, hf1, hs1'⟩ := (unhide hfl).store htp q1 ha1 (by have := unhide hsH; omega)
          obtain ⟨_, _, hs2'⟩ := (unhide hfl).store htp q2 (by omega) (by have := unhide hsH; omega)
          obtain ⟨u0, hu0⟩ : ∃ u, wr.cell? ⟨wo.heap.size, t, none⟩ = some u := Option.ne_none_iff_exists'.1 hn1
          generalize P.getD q1 0 = y1 at *
          generalize P.getD q2 0 = y2 at *
          have HS1 := hide hs1'
          have HS2 := hide hs2'
          clear hs1' hs2' hc1 hc2 hcell hfr hfl hn1 ha1 ha2 hb1 hb2 ht2
          by_cases hy : (y1 : Int) < (y2 : Int)
          · go_wp2_with fail
            go_roundw
            case rel => exact ⟨t + 1, by omega, by go_num, HS2⟩
            case measure => simp [intOf]; omega
          · go_wp2_with fail
            go_roundw
            case rel => exact ⟨t + 1, by omega, by go_num, HS1⟩
            case measure => simp [intOf]; omega
        · have htlI : ¬ (t : Int) + (s2 : Int) ≤ (P.length : Int) := by have := unhide hL2H; omega
          obtain ⟨hfr, c, hrow, hcc⟩ := unhide hfl
          have hwin := RowAt.win hrow (by have := unhide hsH; omega) (fun p hp => hcc p (by have := unhide hL2H; omega))
          have hpow2 : s2 = 2 ^ (k + 1) := by rw [unhide hsH, unhide hpow, Nat.pow_succ]; omega
          rw [unhide hL2E] at hwin
          rw [hpow2] at hwin
          obtain ⟨g4, c4, w4, hap, hlv4⟩ := (unhide hlv).push hfr hwin (by omega)
          have HLV := hide hlv4
          have HAP := hide hap
          have HP2 := hide hpow2
          have hk2 : k + 1 ≤ s2 := by rw [hpow2]; exact Nat.le_of_lt Nat.lt_two_pow_self
          clear hfr hrow hcc hwin hlv4 hap hpow2 hfl
          go_wp2_with (at_builtin; refine wpList_append_run rfl (.tmp 62) (.tmp 64) 22 rfl _ _ (.slice (some ⟨g4, 0, none⟩) (k + 1 + 1) c4) w4 rfl rfl (unhide HAP) ?_)
          go_roundw
          case rel => exact ⟨k + 1, s2, g4, c4, rfl, rfl, by omega, by omega, by omega, HP2, HLV⟩
          case measure => simp [intOf]; omega
    · have hltI : ¬ (s2 : Int) ≤ (P.length : Int) := by omega
      have HX : Hid (P.length < 2 ^ (k + 1)) := hide (by rw [Nat.pow_succ, ← unhide hpow]; omega)
      clear hs
      go_wp2_with fail
      go_ret
      exact ⟨k, g, lc, rfl, unhide hlv, unhide HX, by omega⟩
end Go.Proofs.Qxb6615102a
