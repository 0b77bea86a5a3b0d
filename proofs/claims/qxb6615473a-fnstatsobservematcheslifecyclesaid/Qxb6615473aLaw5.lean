import Derived.Test.Qxb6615473aReasons
namespace Go.Proofs.Qxb6615473a
open Go.RowKit Go.Maps
set_option linter.unusedVariables false

set_option maxHeartbeats 1000000 in
theorem bytes14_any (ao : Option Addr) (N cap : Nat) (E : Nat → Ev) (w : World) (h : EvAll w ao N E) :
    Calls Try.prog 14 #[.slice ao N cap] w fun e w' => ByPost N E w e w' := by
  obtain ⟨hN, hr⟩ := h
  have HR := hide hr
  clear hr
  unfold maxLen at hN
  by_cases hb : (1048576 : Int) < (N : Int)
  · go_enter Try.func14, Try.ntmps14
    go_wp2_with fail
    go_ret
    exact ⟨false, rfl, by simp, rfl⟩
  · go_enter Try.func14, Try.ntmps14
    go_wp2_with fail
    go_loop [3, 4] (fun z i => ∃ k c : Nat, k ≤ N ∧ c ≤ 1048576 ∧ z = .int .i64 c ∧ i = .int .i64 k ∧ Hid (∀ i, i < k → (E i).ty.size ≤ 1048576 ∧ (E i).rs.size ≤ 1048576)) (fun _ i => N - (intOf i).toNat)
    case atStart => exact ⟨0, N, Nat.zero_le _, by omega, rfl, rfl, hide (fun i hi => absurd hi (Nat.not_lt_zero i))⟩
    case round =>
      obtain ⟨k, c, hk, hc, rfl, rfl, hd⟩ := hrel
      by_cases hlt : k < N
      · have hlt2 : (k : Int) < (N : Int) := by omega
        obtain ⟨b, off, rfl, hbb, he⟩ := unhide HR k hlt
        obtain ⟨c0, c1, c2, c3, wi, wd, lt, lr⟩ := he
        unfold maxLen at lt lr
        by_cases g1 : (1048576 : Int) < ((E k).ty.size : Int)
        · go_wp2_with fail
          go_ret
          exact ⟨false, rfl, by simp, rfl⟩
        · by_cases g2 : (1048576 : Int) < (c : Int) + ((E k).ty.size : Int)
          · go_wp2_with fail
            go_ret
            exact ⟨false, rfl, by simp, rfl⟩
          · by_cases g3 : (1048576 : Int) < ((E k).rs.size : Int)
            · go_wp2_with fail
              go_ret
              exact ⟨false, rfl, by simp, rfl⟩
            · by_cases g4 : (1048576 : Int) < (c : Int) + ((E k).ty.size : Int) + ((E k).rs.size : Int)
              · go_wp2_with fail
                go_ret
                exact ⟨false, rfl, by simp, rfl⟩
              · have hs : Hid ((E k).ty.size ≤ 1048576 ∧ (E k).rs.size ≤ 1048576) := hide (by omega)
                go_wp2_with fail
                go_round
                case rel =>
                  refine ⟨k + 1, c + (E k).ty.size + (E k).rs.size, by omega, by omega, by go_num, by go_num, hide (fun i hi => ?_)⟩
                  rcases Nat.lt_or_ge i k with h' | h'
                  · exact unhide hd i h'
                  · have : i = k := by omega
                    subst this
                    exact unhide hs
                case measure => simp [intOf]; omega
      · have hge : ¬ (k : Int) < (N : Int) := by omega
        have ek : Hid (k = N) := hide (by omega)
        go_wp2_with fail
        go_ret
        exact ⟨true, rfl, fun _ i hi => unhide hd i (by rw [unhide ek]; exact hi), rfl⟩

theorem once_dis (E : Nat → Ev) (N : Nat) (h : ∀ i, i < N → isT tCreated (E i) = true → Once E N i) : Dis E N := fun i j hij hj ci cj e => by
  have := h i (by omega) ci j hij hj e.symm
  rw [cj] at this
  cases this
theorem over_no (E : Nat → Ev) (g : Option Nat → Int) (k m : Nat) (h : isT tCreated (E k) = false) : over E g (k + 1) m = over E g k m := by
  unfold over; rw [sm, h]; simp
theorem over_yes (E : Nat → Ev) (g : Option Nat → Int) (k m : Nat) (h : isT tCreated (E k) = true) : over E g (k + 1) m = over E g k m + g (fin E k m) := by
  unfold over; rw [sm, h]; simp
theorem over_le (E : Nat → Ev) (g : Option Nat → Int) (hg : ∀ o, 0 ≤ g o ∧ g o ≤ 1) (m : Nat) : ∀ k, 0 ≤ over E g k m ∧ over E g k m ≤ k
  | 0 => ⟨Int.le_refl _, Int.le_refl _⟩
  | k + 1 => by
    have h := over_le E g hg m k
    have h2 := hg (fin E k m)
    cases c : isT tCreated (E k)
    · rw [over_no E g k m c]; omega
    · rw [over_yes E g k m c]; omega
theorem ind_le (s : Nat) (o : Option Nat) : 0 ≤ ind o s ∧ ind o s ≤ 1 := by unfold ind; split <;> omega
theorem one_le (o : Option Nat) : 0 ≤ one o ∧ one o ≤ 1 := by unfold one; split <;> omega
/-- The law's own gauges, k events in. -/
def Gau (E : Nat → Ev) (N : Nat) (wo : World) (g k : Nat) (wr : World) : Prop :=
  Frm (fun j => wo.heap.size ≤ j) wo wr ∧ RowAt wr g 44 3 (fun s => .int .i64 (over E (fun o => ind o s) k N)) ∧ wo.heap.size ≤ g
theorem gau_zero (E : Nat → Ev) (N : Nat) (wo : World) : Gau E N wo wo.heap.size 0 (wo.alloc (.cells #[.int .i64 0, .int .i64 0, .int .i64 0] 44)) :=
  ⟨(Frm.refl _ wo).alloc _, ⟨_, heap_alloc_new wo _, rfl, fun k hk => by
    have : k = 0 ∨ k = 1 ∨ k = 2 := by omega
    rcases this with rfl | rfl | rfl <;> rfl⟩, Nat.le_refl _⟩
theorem Gau.no {E : Nat → Ev} {N g k : Nat} {wo wr : World} (h : Gau E N wo g k wr) (hn : isT tCreated (E k) = false ∨ fin E k N = none) : Gau E N wo g (k + 1) wr := by
  refine ⟨h.1, h.2.1.congr (fun s hs => ?_), h.2.2⟩
  rcases hn with hn | hn
  · rw [over_no _ _ _ _ hn]
  · cases c : isT tCreated (E k)
    · rw [over_no _ _ _ _ c]
    · rw [over_yes _ _ _ _ c, hn]; simp [ind]
theorem Gau.yes {E : Nat → Ev} {N g k s0 : Nat} {wo wr : World} (h : Gau E N wo g k wr) (hc : isT tCreated (E k) = true) (hf : fin E k N = some s0) (v : Int) (hv : v = over E (fun o => ind o s0) k N + 1) : Gau E N wo g (k + 1) (wr.setCell ⟨g, s0, none⟩ (.int .i64 v)) := by
  refine ⟨h.1.setCell h.2.2 _, (h.2.1.store s0 _).congr (fun s hs => ?_), h.2.2⟩
  rw [over_yes _ _ _ _ hc, hf]
  unfold upd
  by_cases e : s = s0
  · subst e; rw [if_pos rfl, hv, show ind (some s) s = 1 from by simp [ind]]
  · rw [if_neg e, show ind (some s0) s = 0 from by unfold ind; rw [if_neg (fun c => e (Option.some.inj c).symm)], Int.add_zero]
theorem cell_drawn {w wr : World} {a : Addr} {v : Value} (h : w.cell? a = some v) (hq : Hid (∃ q, wr = w.drewN q)) : wr.cell? a = some v := by
  obtain ⟨q, rfl⟩ := hq
  exact (World.cell?_of_block (w := w) rfl).trans h
theorem EvAll.frm {w w' : World} {ao : Option Addr} {N : Nat} {E : Nat → Ev} (h : EvAll w ao N E) (hf : Frm (fun k => w.heap.size ≤ k) w w') : EvAll w' ao N E :=
  h.below (hf.below (Nat.le_refl _) (fun k hk => by omega))

theorem conn_none {base b N M k : Nat} {E : Nat → Ev} {w : World} (h : Cv base w b M (evs E N)) (hb : Bd N (evs E N)) (hi : Inv E N (evs E N)) (hk : k < N) (hc : isT tCreated (E k) = true) (hw : (Lit.int .i64 (E k).id).wf = true) (hf : fin E k N = none) :
    ∃ s : Nat, s < 3 ∧ Calls Try.prog 21 #[.pointer (some ⟨b, 0, none⟩), .int .i64 (E k).id] w fun e w' => e = .returned (.tuple #[.int .u8 s, .bool false]) ∧ w = w' := by
  obtain ⟨r, s, h1, h2, h3, h4⟩ := h.conn hb (E k).id hw
  rw [look_has, hi.lk k hk hc, hf] at h3
  exact ⟨s, h2, conn_get b r (E k).id s false w h1 h3⟩
theorem conn_some {base b N M k s : Nat} {E : Nat → Ev} {w : World} (h : Cv base w b M (evs E N)) (hb : Bd N (evs E N)) (hi : Inv E N (evs E N)) (hk : k < N) (hc : isT tCreated (E k) = true) (hw : (Lit.int .i64 (E k).id).wf = true) (hf : fin E k N = some s) :
    s < 3 ∧ Calls Try.prog 21 #[.pointer (some ⟨b, 0, none⟩), .int .i64 (E k).id] w fun e w' => e = .returned (.tuple #[.int .u8 (s : Int), .bool true]) ∧ w = w' := by
  obtain ⟨r, s', h1, h2, h3, h4⟩ := h.conn hb (E k).id hw
  have hl := hi.lk k hk hc
  rw [hf] at hl
  obtain ⟨g1, g2⟩ := look_at hb (E k).id s hl
  rw [h4] at g1
  have : (s' : Int) = (s : Int) := congrArg valI g1
  rw [look_has, hl, this] at h3
  exact ⟨g2, conn_get b r (E k).id s true w h1 h3⟩

set_option maxRecDepth 20000 in
set_option maxHeartbeats 8000000 in
theorem life_any (ao : Option Addr) (N cap : Nat) (E : Nat → Ev) (w : World) (h : EvAll w ao N E) :
    Calls Try.prog 5 #[.slice ao N cap] w fun e w' => e = .returned (.bool true) ∧ Below w.heap.size w w' := by
  have HEV := hide h
  have HD : Hid (∀ i, i < N → (Lit.int .i64 (E i).id).wf = true ∧ (E i).d ≤ 9223372036854775807) := hide (fun i hi => by
    obtain ⟨b, off, _, _, he⟩ := h.2 i hi
    have := he.wd
    simp only [Lit.wf, Bool.and_eq_true, decide_eq_true_eq] at this
    exact ⟨he.wi, Int.le_trans this.2 (by decide)⟩)
  have hN0 := h.1
  unfold maxLen at hN0
  clear h
  have CB := hide (bytes14_any ao N cap E w (unhide HEV))
  by_cases hN : (4096 : Int) < (N : Int)
  · go_enter Try.func5, Try.ntmps5
    go_wp2_with fail
    refine (unhide CB).mono ?_
    rintro e w' ⟨r, rfl, hby, rfl⟩
    cases r
    · go_wp2_with fail
      go_ret
      exact ⟨rfl, Below.refl _ _⟩
    · go_wp2_with fail
      go_ret
      exact ⟨rfl, Below.refl _ _⟩
  go_enter Try.func5, Try.ntmps5
  go_wp2_with fail
  refine (unhide CB).mono ?_
  rintro e w' ⟨r, rfl, hby, rfl⟩
  clear CB
  cases r
  · go_wp2_with fail
    go_ret
    exact ⟨rfl, Below.refl _ _⟩
  have HBY := hide (hby rfl)
  have HE : Hid (∀ i, i < N → (Lit.int .i64 (E i).id).wf = true ∧ (E i).d ≤ 9223372036854775807 ∧ (E i).rs.size ≤ 1048576) := hide (fun i hi => ⟨(unhide HD i hi).1, (unhide HD i hi).2, (unhide HBY i hi).2⟩)
  clear hby
  go_wp2_with fail
  go_loopw [3, 4] (fun z i wr => ∃ k c : Nat, k ≤ N ∧ c ≤ 1048576 ∧ z = .int .i64 c ∧ i = .int .i64 k ∧ Hid (∃ q, wr = w.drewN q)) (fun _ i _ => N - (intOf i).toNat)
  case atStart => exact ⟨0, 0, Nat.zero_le _, by omega, rfl, rfl, hide ⟨0, rfl⟩⟩
  case round =>
    obtain ⟨k, c, hk, hc, rfl, rfl, hq⟩ := hrel
    by_cases hlt : k < N
    · have hlt2 : (k : Int) < (N : Int) := by omega
      obtain ⟨b, off, rfl, hbb, he⟩ := ((unhide HEV).drawn hq).2 k hlt
      obtain ⟨c0, c1, c2, c3, wi, wd, _, _⟩ := he
      obtain ⟨lt, lr⟩ := unhide HBY k hlt
      by_cases g : (1048576 : Int) < (c : Int) + (32 + ((E k).ty.size : Int) + ((E k).rs.size : Int))
      · go_wp2_with fail
        go_quiet (fail)
        go_wp2_with fail
        go_ret
        refine ⟨rfl, ?_⟩
        obtain ⟨q, rfl⟩ := hq
        exact below_drewN (below_drewN (Below.refl _ _) _) _
      · go_wp2_with fail
        go_quiet (fail)
        go_wp2_with fail
        go_roundw
        case rel => exact ⟨k + 1, c + 32 + (E k).ty.size + (E k).rs.size, by omega, by omega, by go_num, by go_num, drawn_more hq _⟩
        case measure => simp [intOf]; omega
    · have hge : ¬ (k : Int) < (N : Int) := by omega
      go_wp2_with fail
      go_loopw [5] (fun y wr => ∃ i : Nat, i ≤ N ∧ y = .int .i64 (i : Int) ∧ Hid (∃ q, wr = w.drewN q) ∧ Hid (∀ i', i' < i → isT tCreated (E i') = true → Once E N i')) (fun y _ => N - (intOf y).toNat)
      case atStart => exact ⟨0, Nat.zero_le _, rfl, hq, hide (fun i hi => absurd hi (Nat.not_lt_zero i))⟩
      case round =>
        clear hq
        obtain ⟨i, hi, rfl, hq, hon⟩ := hrel
        by_cases hlt : i < N
        · have hlt2 : (i : Int) < (N : Int) := by omega
          obtain ⟨b, off, rfl, hbb, he⟩ := ((unhide HEV).drawn hq).2 i hlt
          obtain ⟨c0, c1, c2, c3, wi, wd, _, _⟩ := he
          cases q1 : ((E i).ty.toList == [67, 111, 110, 110, 101, 99, 116, 105, 111, 110, 67, 114, 101, 97, 116, 101, 100])
          · go_wp2_with fail
            refine ⟨⟨i + 1, by omega, by go_num, hq, hide (fun i' hi' hc => ?_)⟩, ?_⟩
            · by_cases e : i' = i
              · subst e; rw [show isT tCreated (E i') = false from q1] at hc; cases hc
              · exact unhide hon i' (by omega) hc
            · simp [intOf]; omega
          · have Q1 : Hid (isT tCreated (E i) = true) := hide q1
            go_wp2_with fail
            obtain ⟨wo, hwo⟩ : ∃ wo, wo = wr := ⟨_, rfl⟩
            subst hwo
            go_loopw [6] (fun y wr => ∃ j : Nat, i < j ∧ j ≤ N ∧ y = .int .i64 (j : Int) ∧ Hid (∃ q, wr = w.drewN q) ∧ Hid (∀ j', i < j' → j' < j → (E j').id = (E i).id → isT tCreated (E j') = false)) (fun y _ => N - (intOf y).toNat)
            case atStart => exact ⟨i + 1, by omega, by omega, by go_num, hq, hide (fun j h1 h2 => by omega)⟩
            case round =>
              clear hq
              obtain ⟨j, hij, hj, rfl, hq, hno⟩ := hrel
              by_cases hjlt : j < N
              · have hjlt2 : (j : Int) < (N : Int) := by omega
                obtain ⟨bb', off', hao, hbb', he⟩ := ((unhide HEV).drawn hq).2 j hjlt
                simp only [Option.some.injEq, Addr.mk.injEq, and_true] at hao
                obtain ⟨rfl, rfl⟩ := hao
                obtain ⟨c0, c1, c2, c3, _, _, _, _⟩ := he
                obtain ⟨bb', off', hao, hbb', he⟩ := ((unhide HEV).drawn hq).2 i hlt
                simp only [Option.some.injEq, Addr.mk.injEq, and_true] at hao
                obtain ⟨rfl, rfl⟩ := hao
                obtain ⟨f0, f1, f2, f3, _, _, _, _⟩ := he
                cases q2 : ((E j).ty.toList == [67, 111, 110, 110, 101, 99, 116, 105, 111, 110, 67, 114, 101, 97, 116, 101, 100])
                · have Q2 : Hid (isT tCreated (E j) = false) := hide q2
                  go_wp2_with fail
                  go_quiet (fail)
                  go_wp2_with fail
                  refine ⟨⟨j + 1, by omega, by omega, by go_num, drawn_more hq _, hide (fun j' h1 h2 h3 => ?_)⟩, ?_⟩
                  · by_cases e : j' = j
                    · subst e; exact unhide Q2
                    · exact unhide hno j' h1 (by omega) h3
                  · simp [intOf]; omega
                · obtain ⟨ij, hIJ⟩ : ∃ x, (E j).id = x := ⟨_, rfl⟩
                  obtain ⟨ii, hII⟩ : ∃ x, (E i).id = x := ⟨_, rfl⟩
                  rw [hIJ] at c1
                  rw [hII] at f1
                  have HIJ := hide hIJ
                  have HII := hide hII
                  clear hIJ hII
                  by_cases hid : ij = ii
                  · subst hid
                    go_wp2_with fail
                    go_quiet (fail)
                    go_wp2_with fail
                    go_ret
                    refine ⟨rfl, ?_⟩
                    obtain ⟨q, rfl⟩ := hq
                    exact below_drewN (below_drewN (Below.refl _ _) _) _
                  · have hid1 : (ij == ii) = false := by simpa using hid
                    go_wp2_with fail
                    go_quiet (fail)
                    go_wp2_with fail
                    refine ⟨⟨j + 1, by omega, by omega, by go_num, drawn_more hq _, hide (fun j' h1 h2 h3 => ?_)⟩, ?_⟩
                    · by_cases e : j' = j
                      · subst e; exact absurd (by rw [← unhide HIJ, h3, unhide HII]) hid
                      · exact unhide hno j' h1 (by omega) h3
                    · simp [intOf]; omega
              · have hjge : ¬ (j : Int) < (N : Int) := by omega
                have hon' : Hid (∀ i', i' < i + 1 → isT tCreated (E i') = true → Once E N i') := hide (fun i' hi' hc => by
                  by_cases e : i' = i
                  · subst e; exact fun j' h1 h2 h3 => unhide hno j' h1 (by omega) h3
                  · exact unhide hon i' (by omega) hc)
                go_wp2_with fail
                go_roundw
                case rel => exact ⟨i + 1, by omega, by go_num, hq, hon'⟩
                case measure => simp [intOf]; omega
        · have hge : ¬ (i : Int) < (N : Int) := by omega
          have HON : Hid (∀ i, i < N → isT tCreated (E i) = true → Once E N i) := hide (fun i' hi' hc => unhide hon i' (by omega) hc)
          clear hon
          as_aux_lemma =>
            go_wp2_with fail
            obtain ⟨wB, hwB⟩ : ∃ wB, wr.alloc (.cells Try.zeroCells50 50) = wB := ⟨_, rfl⟩
            obtain ⟨b0, hb0⟩ : ∃ b0, wr.heap.size = b0 := ⟨_, rfl⟩
            have hst : Hid (Obd w b0 E 0 wB) := hide (by
              obtain ⟨q, rfl⟩ := hq
              rw [← hwB, ← hb0]
              exact ⟨Or.inr ⟨rfl, zero_row _⟩, (below_drewN (Below.refl _ _) _).alloc (Nat.le_refl _) _, by rw [szA]; omega, Nat.le_refl _⟩)
            rw [hwB, hb0]
            clear hwB hb0
            go_loopw [8] (fun x wr => ∃ k : Nat, k ≤ N ∧ x = .int .i64 k ∧ Hid (Obd w b0 E k wr)) (fun x _ => N - (intOf x).toNat)
            case atStart => exact ⟨0, Nat.zero_le _, rfl, hst⟩
            case round =>
              clear hst
              obtain ⟨p, hp, rfl, hst⟩ := hrel
              by_cases hlt : p < N
              · have hlt2 : (p : Int) < (N : Int) := by omega
                obtain ⟨b, off, rfl, hbb, he⟩ := ((unhide HEV).below (unhide hst).2.1).2 p hlt
                obtain ⟨c0, c1, c2, c3, wi, wd, _, _⟩ := he
                have EVC : ∀ wq : World, Hid (Calls Try.prog 16 #[.string (E p).ty, .int .i64 (E p).id, .string (E p).rs, .int .i64 (E p).d] wq fun e w' => e = .returned (.agg (evCells (E p).ty (E p).rs (E p).id (E p).d)) ∧ w' = wq.alloc (.cells (evCells (E p).ty (E p).rs (E p).id (E p).d) 55)) := fun wq => hide (event_any _ _ _ _ wq)
                have OBC : ∀ wq : World, Hid (Obd w b0 E p wq → Calls Try.prog 15 #[.pointer (some ⟨b0, 0, none⟩), .agg (evCells (E p).ty (E p).rs (E p).id (E p).d)] wq fun e w' => e = .returned (.tuple #[]) ∧ Obd w b0 E (p + 1) w') := fun wq => hide (fun h => obd_call w b0 N E (unhide HE) (by omega) p hlt wq h)
                go_wp2_with fail
                refine (unhide (EVC _)).mono ?_
                rintro e wA ⟨rfl, hwA⟩
                have hA : Hid (Obd w b0 E p wA) := hide (by rw [hwA]; exact ((unhide hst).alloc _).alloc _)
                clear hwA hst
                go_wp2_with fail
                refine (unhide (OBC _) (unhide hA)).mono ?_
                rintro e wO ⟨rfl, hO⟩
                have HO := hide hO
                clear hO
                go_wp2_with fail
                go_roundw
                case rel => exact ⟨p + 1, by omega, by go_num, HO⟩
                case measure => simp [intOf]; omega
              · have hge : ¬ (p : Int) < (N : Int) := by omega
                obtain rfl : p = N := by omega
                obtain ⟨wo, hwo⟩ : ∃ wo, wo = wr := ⟨_, rfl⟩
                subst hwo
                have HEO := hide ((unhide HEV).below (unhide hst).2.1)
                clear hq
                as_aux_lemma =>
                  go_wp2_with fail
                  go_loop [10, 11, 12, 13, 14, 15] (fun x10 x11 x12 x13 x14 x15 => ∃ k n10 n11 n12 n13 n14 : Nat, k ≤ p ∧ n10 ≤ k ∧ n11 ≤ k ∧ n12 ≤ k ∧ n13 ≤ k ∧ n14 ≤ k ∧ x10 = .int .i64 (n10 : Int) ∧ x11 = .int .i64 (n11 : Int) ∧ x12 = .int .i64 (n12 : Int) ∧ x13 = .int .i64 (n13 : Int) ∧ x14 = .int .i64 (n14 : Int) ∧ x15 = .int .i64 (k : Int) ∧ Hid (n10 = cntT tCreated E k ∧ n11 = cntT tHeld E k ∧ n12 = cntT tStarted E k ∧ n13 = cntT tOut E k ∧ n14 = cntT tFailed E k)) (fun _ _ _ _ _ x => p - (intOf x).toNat)
                  case atStart => exact ⟨0, 0, 0, 0, 0, 0, Nat.zero_le _, Nat.le_refl _, Nat.le_refl _, Nat.le_refl _, Nat.le_refl _, Nat.le_refl _, rfl, rfl, rfl, rfl, rfl, rfl, hide ⟨rfl, rfl, rfl, rfl, rfl⟩⟩
                  case round =>
                    obtain ⟨a, n10, n11, n12, n13, n14, ha, l10, l11, l12, l13, l14, rfl, rfl, rfl, rfl, rfl, rfl, hn⟩ := hrel
                    by_cases hlt : a < p
                    · have hlt2 : (a : Int) < (p : Int) := by omega
                      obtain ⟨b, off, rfl, hbb, he⟩ := (unhide HEO).2 a hlt
                      obtain ⟨c0, c1, c2, c3, wi, wd, _, _⟩ := he
                      clear hst HEO HON HE HBY HEV HD
                      cases q1 : ((E a).ty.toList == [67, 111, 110, 110, 101, 99, 116, 105, 111, 110, 67, 114, 101, 97, 116, 101, 100])
                      rotate_left
                      · have n := isT_eq (t := tCreated) (e := E a) q1
                        have hs : Hid (cntT tCreated E (a + 1) = cntT tCreated E a + 1 ∧ cntT tHeld E (a + 1) = cntT tHeld E a ∧ cntT tStarted E (a + 1) = cntT tStarted E a ∧ cntT tOut E (a + 1) = cntT tOut E a ∧ cntT tFailed E (a + 1) = cntT tFailed E a) := hide (by simp only [cntT_of _ E a _ n]; exact ⟨rfl, rfl, rfl, rfl, rfl⟩)
                        clear n
                        go_wp2_with fail
                        go_round
                        case rel => exact ⟨a + 1, n10 + 1, n11, n12, n13, n14, by omega, by omega, by omega, by omega, by omega, by omega, by go_num, rfl, rfl, rfl, rfl, by go_num, hide (by obtain ⟨s1, s2, s3, s4, s5⟩ := unhide hs; obtain ⟨r1, r2, r3, r4, r5⟩ := unhide hn; rw [s1, s2, s3, s4, s5, r1, r2, r3, r4, r5]; exact ⟨rfl, rfl, rfl, rfl, rfl⟩)⟩
                        case measure => simp [intOf]; omega
                      cases q2 : ((E a).ty.toList == [67, 111, 110, 110, 101, 99, 116, 105, 111, 110, 72, 101, 108, 100, 84, 111, 111, 76, 111, 110, 103])
                      rotate_left
                      · have n := isT_eq (t := tHeld) (e := E a) q2
                        have hs : Hid (cntT tCreated E (a + 1) = cntT tCreated E a ∧ cntT tHeld E (a + 1) = cntT tHeld E a + 1 ∧ cntT tStarted E (a + 1) = cntT tStarted E a ∧ cntT tOut E (a + 1) = cntT tOut E a ∧ cntT tFailed E (a + 1) = cntT tFailed E a) := hide (by simp only [cntT_of _ E a _ n]; exact ⟨rfl, rfl, rfl, rfl, rfl⟩)
                        clear n
                        go_wp2_with fail
                        go_round
                        case rel => exact ⟨a + 1, n10, n11 + 1, n12, n13, n14, by omega, by omega, by omega, by omega, by omega, by omega, rfl, by go_num, rfl, rfl, rfl, by go_num, hide (by obtain ⟨s1, s2, s3, s4, s5⟩ := unhide hs; obtain ⟨r1, r2, r3, r4, r5⟩ := unhide hn; rw [s1, s2, s3, s4, s5, r1, r2, r3, r4, r5]; exact ⟨rfl, rfl, rfl, rfl, rfl⟩)⟩
                        case measure => simp [intOf]; omega
                      cases q3 : ((E a).ty.toList == [67, 111, 110, 110, 101, 99, 116, 105, 111, 110, 67, 104, 101, 99, 107, 79, 117, 116, 83, 116, 97, 114, 116, 101, 100])
                      rotate_left
                      · have n := isT_eq (t := tStarted) (e := E a) q3
                        have hs : Hid (cntT tCreated E (a + 1) = cntT tCreated E a ∧ cntT tHeld E (a + 1) = cntT tHeld E a ∧ cntT tStarted E (a + 1) = cntT tStarted E a + 1 ∧ cntT tOut E (a + 1) = cntT tOut E a ∧ cntT tFailed E (a + 1) = cntT tFailed E a) := hide (by simp only [cntT_of _ E a _ n]; exact ⟨rfl, rfl, rfl, rfl, rfl⟩)
                        clear n
                        go_wp2_with fail
                        go_round
                        case rel => exact ⟨a + 1, n10, n11, n12 + 1, n13, n14, by omega, by omega, by omega, by omega, by omega, by omega, rfl, rfl, by go_num, rfl, rfl, by go_num, hide (by obtain ⟨s1, s2, s3, s4, s5⟩ := unhide hs; obtain ⟨r1, r2, r3, r4, r5⟩ := unhide hn; rw [s1, s2, s3, s4, s5, r1, r2, r3, r4, r5]; exact ⟨rfl, rfl, rfl, rfl, rfl⟩)⟩
                        case measure => simp [intOf]; omega
                      cases q4 : ((E a).ty.toList == [67, 111, 110, 110, 101, 99, 116, 105, 111, 110, 67, 104, 101, 99, 107, 101, 100, 79, 117, 116])
                      rotate_left
                      · have n := isT_eq (t := tOut) (e := E a) q4
                        have hs : Hid (cntT tCreated E (a + 1) = cntT tCreated E a ∧ cntT tHeld E (a + 1) = cntT tHeld E a ∧ cntT tStarted E (a + 1) = cntT tStarted E a ∧ cntT tOut E (a + 1) = cntT tOut E a + 1 ∧ cntT tFailed E (a + 1) = cntT tFailed E a) := hide (by simp only [cntT_of _ E a _ n]; exact ⟨rfl, rfl, rfl, rfl, rfl⟩)
                        clear n
                        go_wp2_with fail
                        go_round
                        case rel => exact ⟨a + 1, n10, n11, n12, n13 + 1, n14, by omega, by omega, by omega, by omega, by omega, by omega, rfl, rfl, rfl, by go_num, rfl, by go_num, hide (by obtain ⟨s1, s2, s3, s4, s5⟩ := unhide hs; obtain ⟨r1, r2, r3, r4, r5⟩ := unhide hn; rw [s1, s2, s3, s4, s5, r1, r2, r3, r4, r5]; exact ⟨rfl, rfl, rfl, rfl, rfl⟩)⟩
                        case measure => simp [intOf]; omega
                      cases q5 : ((E a).ty.toList == [67, 111, 110, 110, 101, 99, 116, 105, 111, 110, 67, 104, 101, 99, 107, 79, 117, 116, 70, 97, 105, 108, 101, 100])
                      rotate_left
                      · have n := isT_eq (t := tFailed) (e := E a) q5
                        have hs : Hid (cntT tCreated E (a + 1) = cntT tCreated E a ∧ cntT tHeld E (a + 1) = cntT tHeld E a ∧ cntT tStarted E (a + 1) = cntT tStarted E a ∧ cntT tOut E (a + 1) = cntT tOut E a ∧ cntT tFailed E (a + 1) = cntT tFailed E a + 1) := hide (by simp only [cntT_of _ E a _ n]; exact ⟨rfl, rfl, rfl, rfl, rfl⟩)
                        clear n
                        go_wp2_with fail
                        go_round
                        case rel => exact ⟨a + 1, n10, n11, n12, n13, n14 + 1, by omega, by omega, by omega, by omega, by omega, by omega, rfl, rfl, rfl, rfl, by go_num, by go_num, hide (by obtain ⟨s1, s2, s3, s4, s5⟩ := unhide hs; obtain ⟨r1, r2, r3, r4, r5⟩ := unhide hn; rw [s1, s2, s3, s4, s5, r1, r2, r3, r4, r5]; exact ⟨rfl, rfl, rfl, rfl, rfl⟩)⟩
                        case measure => simp [intOf]; omega
                      have hs : Hid (cntT tCreated E (a + 1) = cntT tCreated E a ∧ cntT tHeld E (a + 1) = cntT tHeld E a ∧ cntT tStarted E (a + 1) = cntT tStarted E a ∧ cntT tOut E (a + 1) = cntT tOut E a ∧ cntT tFailed E (a + 1) = cntT tFailed E a) := hide (by
                        have z1 : isT tCreated (E a) = false := q1
                        have z2 : isT tHeld (E a) = false := q2
                        have z3 : isT tStarted (E a) = false := q3
                        have z4 : isT tOut (E a) = false := q4
                        have z5 : isT tFailed (E a) = false := q5
                        refine ⟨by rw [cntT, z1]; rfl, by rw [cntT, z2]; rfl, by rw [cntT, z3]; rfl, by rw [cntT, z4]; rfl, by rw [cntT, z5]; rfl⟩)
                      go_wp2_with fail
                      go_round
                      case rel => exact ⟨a + 1, n10, n11, n12, n13, n14, by omega, by omega, by omega, by omega, by omega, by omega, rfl, rfl, rfl, rfl, rfl, by go_num, hide (by obtain ⟨s1, s2, s3, s4, s5⟩ := unhide hs; obtain ⟨r1, r2, r3, r4, r5⟩ := unhide hn; rw [s1, s2, s3, s4, s5, r1, r2, r3, r4, r5]; exact ⟨rfl, rfl, rfl, rfl, rfl⟩)⟩
                      case measure => simp [intOf]; omega
                    · have hge : ¬ (a : Int) < (p : Int) := by omega
                      obtain rfl : a = p := by omega
                      obtain ⟨vc, vf, vl, hrow⟩ := (unhide hst).row
                      obtain ⟨k1, k2, k3⟩ := counts E a
                      obtain ⟨r1, r2, r3, r4, r5⟩ := unhide hn
                      have h7 : wo.cell? ⟨b0, 7, none⟩ = some (.int .i64 (n10 : Int)) := by rw [hrow.cell 7 (by omega), r1, ← k1]; rfl
                      have h10 : wo.cell? ⟨b0, 10, none⟩ = some (.int .i64 (n11 : Int)) := by rw [hrow.cell 10 (by omega), r2, ← k2]; rfl
                      have h6 : wo.cell? ⟨b0, 6, none⟩ = some (.int .i64 ((n12 : Int) - n13 - n14)) := by rw [hrow.cell 6 (by omega), r3, r4, r5, ← k3]; rfl
                      have CA := hide (created_get b0 _ wo h7)
                      have CH := hide (held_get b0 _ wo h10)
                      have CW := hide (waiting_get b0 _ wo h6)
                      clear hrow k1 k2 k3 r1 r2 r3 r4 r5 h7 h10 h6 hn
                      as_aux_lemma =>
                        go_wp2_with fail
                        refine (unhide CA).mono ?_
                        rintro e w' ⟨rfl, rfl⟩
                        go_wp2_with fail
                        refine (unhide CH).mono ?_
                        rintro e w' ⟨rfl, rfl⟩
                        go_wp2_with fail
                        refine (unhide CW).mono ?_
                        rintro e w' ⟨rfl, rfl⟩
                        clear CA CH CW
                        go_wp2_with fail
                        obtain ⟨wG, hwG⟩ : ∃ wG, wo.alloc (.cells #[.int .i64 0, .int .i64 0, .int .i64 0] 44) = wG := ⟨_, rfl⟩
                        obtain ⟨g, hg⟩ : ∃ g, wo.heap.size = g := ⟨_, rfl⟩
                        have hgau : Hid (Gau E a wo g 0 wG) := hide (by rw [← hwG, ← hg]; exact gau_zero E a wo)
                        rw [hwG, hg]
                        clear hwG hg
                        have HDS := hide (once_dis E a (unhide HON))
                        have HCV : Hid (Cv w.heap.size wo b0 a (evs E a)) := hide (unhide hst).1
                        have HBD := hide (bd_evs E a (fun i hi => (unhide HE i hi).2.1) a (Nat.le_refl _)).1
                        have HINV := hide (inv_evs E a (fun i hi => (unhide HE i hi).2.1) (unhide HDS) a (Nat.le_refl _))
                        have HTAL := hide (tallies E a)
                        have HBEL := hide (unhide hst).2.1
                        clear hst HDS
                        go_loopw [17, 18] (fun x y wr => ∃ (m : Nat) (v : Int), m ≤ a ∧ 0 ≤ v ∧ v ≤ m ∧ x = .int .i64 v ∧ y = .int .i64 (m : Int) ∧ Hid (v = over E one m a) ∧ Hid (Gau E a wo g m wr)) (fun _ y _ => a - (intOf y).toNat)
                        case atStart => exact ⟨0, 0, Nat.zero_le _, by omega, by omega, rfl, rfl, hide rfl, hgau⟩
                        case round =>
                          clear hgau
                          obtain ⟨m, v, hm, hv0, hv1, rfl, rfl, hv, hgau⟩ := hrel
                          by_cases hlt : m < a
                          · have hlt2 : (m : Int) < (a : Int) := by omega
                            have HEW := hide ((unhide HEO).frm (unhide hgau).1)
                            have HCW := hide ((unhide HCV).kept (unhide hgau).1)
                            obtain ⟨b, off, rfl, hbb, he⟩ := (unhide HEW).2 m hlt
                            obtain ⟨c0, c1, c2, c3, wi, wd, _, _⟩ := he
                            cases q1 : ((E m).ty.toList == [67, 111, 110, 110, 101, 99, 116, 105, 111, 110, 67, 114, 101, 97, 116, 101, 100])
                            · have hs := hide (over_no E one m a q1)
                              have hg2 := hide ((unhide hgau).no (Or.inl q1))
                              go_wp2_with fail
                              refine ⟨⟨m + 1, v, by omega, hv0, by omega, rfl, by go_num, hide (by rw [unhide hs]; exact unhide hv), hg2⟩, ?_⟩
                              simp [intOf]; omega
                            · have hs := hide (over_yes E one m a q1)
                              have CF := hide (final_any (some ⟨b, off, none⟩) a cap m E wr (unhide HEW) (by omega) hlt (unhide HON m hlt q1))
                              cases hfin : fin E m a with
                              | none =>
                                rw [hfin] at CF hs
                                obtain ⟨s, hs3, hcn⟩ := conn_none (unhide HCW) (unhide HBD) (unhide HINV) hlt q1 wi hfin
                                have CN := hide hcn
                                have hg2 := hide ((unhide hgau).no (Or.inr hfin))
                                clear hcn hfin
                                as_aux_lemma =>
                                  go_wp2_with fail
                                  refine (unhide CF).mono ?_
                                  rintro e w' ⟨rfl, rfl⟩
                                  unfold told
                                  go_wp2_with fail
                                  refine (unhide CN).mono ?_
                                  rintro e w' ⟨rfl, rfl⟩
                                  go_wp2_with fail
                                  go_roundw
                                  case rel => exact ⟨m + 1, v, by omega, hv0, by omega, rfl, by go_num, hide (by rw [unhide hs, unhide hv]; simp [one]), hg2⟩
                                  case measure => simp [intOf]; omega
                              | some s =>
                                rw [hfin] at CF hs
                                obtain ⟨hs3, hcn⟩ := conn_some (unhide HCW) (unhide HBD) (unhide HINV) hlt q1 wi hfin
                                have CN := hide hcn
                                have gc := (unhide hgau).2.1.cell s hs3
                                have gf := (unhide hgau).2.1.free s
                                obtain ⟨gv, hgv⟩ : ∃ gv, over E (fun o => ind o s) m a = gv := ⟨_, rfl⟩
                                have hgb := over_le E (fun o => ind o s) (ind_le s) a m
                                rw [hgv] at gc hgb
                                have hg2 : Hid (Gau E a wo g (m + 1) (wr.setCell ⟨g, s, none⟩ (.int .i64 (gv + 1)))) := hide ((unhide hgau).yes q1 hfin (gv + 1) (by rw [hgv]))
                                have hs4 : (s : Int) < 3 := by omega
                                clear hcn hfin hgv
                                as_aux_lemma =>
                                  go_wp2_with fail
                                  refine (unhide CF).mono ?_
                                  rintro e w' ⟨rfl, rfl⟩
                                  unfold told
                                  go_wp2_with fail
                                  refine (unhide CN).mono ?_
                                  rintro e w' ⟨rfl, rfl⟩
                                  go_wp2_with fail
                                  go_roundw
                                  case rel => exact ⟨m + 1, v + 1, by omega, by omega, by omega, by go_num, by go_num, hide (by rw [unhide hs, unhide hv]; simp [one]), hg2⟩
                                  case measure => simp [intOf]; omega
                          · have hge : ¬ (m : Int) < (a : Int) := by omega
                            obtain rfl : m = a := by omega
                            have HEW := hide ((unhide HEO).frm (unhide hgau).1)
                            have HCW := hide ((unhide HCV).kept (unhide hgau).1)
                            have HBW : Hid (Below w.heap.size w wr) := hide ((unhide HBEL).trans ((unhide hgau).1.below (unhide HBEL).size (fun k hk => by have := (unhide HBEL).size; omega)))
                            obtain ⟨r, z1, z2⟩ := (unhide HCW).connLen
                            rw [(unhide HINV).sz, ← unhide hv] at z2
                            have CL := hide (conns_len b0 r v wr z1 z2)
                            clear z1 z2
                            obtain ⟨wz, hwz⟩ : ∃ wz, wz = wr := ⟨_, rfl⟩
                            subst hwz
                            as_aux_lemma =>
                              go_wp2_with fail
                              refine (unhide CL).mono ?_
                              rintro e w' ⟨rfl, rfl⟩
                              go_wp2_with fail
                              go_loopw [23] (fun x wr => ∃ t : Nat, t ≤ 3 ∧ x = .int .i64 (t : Int) ∧ Hid (∃ q, wr = wz.drewN q)) (fun x _ => 3 - (intOf x).toNat)
                              case atStart => exact ⟨0, by omega, rfl, drawn0 wz⟩
                              case round =>
                                obtain ⟨t, ht, rfl, hq⟩ := hrel
                                by_cases htl : t < 3
                                · have htl2 : (t : Int) < 3 := by omega
                                  obtain ⟨gv, hgv⟩ : ∃ gv, over E (fun o => ind o t) m m = gv := ⟨_, rfl⟩
                                  have gc := (unhide hgau).2.1.cell t htl
                                  rw [hgv] at gc
                                  have gc' := cell_drawn gc hq
                                  have CG : ∀ n : Nat, Hid (Calls Try.prog 23 #[.pointer (some ⟨b0, 0, none⟩), .int .i64 (t : Int)] (wr.drewN n) fun e w' => e = .returned (.int .i64 gv) ∧ w' = wr.drewN n) := fun n => hide (by
                                    obtain ⟨vc, vf, vl, hrow⟩ := (unhide HCW).row
                                    refine (gauge_get b0 t gv _ htl (cell_drawn (cell_drawn ?_ hq) (hide ⟨n, rfl⟩))).mono (fun e w' h => ⟨h.1, h.2.symm⟩)
                                    have := hrow.cell (3 + t) (by omega)
                                    rw [cells_ga _ _ _ _ _ t htl, (unhide HINV).ga t, hgv] at this
                                    exact this)
                                  clear gc hgv
                                  go_wp2_with fail
                                  go_quiet ((go_at_call 23; exact Calls.quiet_of_same (unhide (CG _))))
                                  go_wp2_with fail
                                  go_roundw
                                  case rel => exact ⟨t + 1, by omega, by go_num, drawn_more hq _⟩
                                  case measure => simp [intOf]; omega
                                · have htl2 : ¬ (t : Int) < 3 := by omega
                                  have C1 := hide (reasons_closed ao w.heap.size b0 m cap m E (evs E m) wr ((unhide HEW).drawn hq) (by omega) (by obtain ⟨q, rfl⟩ := hq; exact (unhide HCW).drewN q) (unhide HTAL).1 (fun i hi => (unhide HE i hi).2.2))
                                  have C2 : ∀ n : Nat, Hid (Calls Try.prog 24 #[.pointer (some ⟨b0, 0, none⟩), .slice ao m cap, .string { data := #[67, 111, 110, 110, 101, 99, 116, 105, 111, 110, 67, 104, 101, 99, 107, 79, 117, 116, 70, 97, 105, 108, 101, 100] }, .bool false] (wr.drewN n) fun e w' => e = .returned (.bool true) ∧ ∃ q, w' = (wr.drewN n).drewN q) := fun n => hide (reasons_failed ao w.heap.size b0 m cap m E (evs E m) (wr.drewN n) ((unhide HEW).drawn (drawn_more hq n)) (by omega) (by obtain ⟨q, rfl⟩ := hq; exact ((unhide HCW).drewN q).drewN n) (unhide HTAL).2 (fun i hi => (unhide HE i hi).2.2))
                                  have HBR : Hid (∀ n, Below w.heap.size w (wr.drewN n)) := hide (fun n => by obtain ⟨q, rfl⟩ := hq; exact below_drewN (below_drewN (unhide HBW) _) _)
                                  go_wp2_with fail
                                  refine (unhide C1).mono ?_
                                  rintro e w' ⟨rfl, n1, rfl⟩
                                  go_wp2_with fail
                                  refine (unhide (C2 n1)).mono ?_
                                  rintro e w' ⟨rfl, n2, rfl⟩
                                  go_wp2_with fail
                                  go_ret
                                  exact ⟨rfl, unhide HBR _⟩
end Go.Proofs.Qxb6615473a
