import Derived.Test.Qxb6615473aMem
import Derived.Test.Qxb6615473aAdd
namespace Go.Proofs.Qxb6615473a
open Go.RowKit Go.Maps
set_option linter.unusedVariables false

/-- The bounds that n events keep. -/
structure Bd (n : Nat) (S : St) : Prop where
  ga : ∀ i, -(n : Int) ≤ S.ga i ∧ S.ga i ≤ n
  waiting : -(n : Int) ≤ S.waiting ∧ S.waiting ≤ n
  created : 0 ≤ S.created ∧ S.created ≤ n
  held : 0 ≤ S.held ∧ S.held ≤ n
  count : 0 ≤ S.count ∧ S.count ≤ n
  total : 0 ≤ S.total ∧ S.total ≤ 9223372036854775807
  mx : 0 ≤ S.mx ∧ S.mx ≤ 9223372036854775807
  bk : ∀ i, 0 ≤ S.bk i ∧ S.bk i ≤ n
  st : ∀ id : Int, ∃ s : Nat, s < 3 ∧ S.conns.atKey (kid id) (u8 0) = u8 s
  fa : ∀ r : ByteArray, ∃ c : Int, 0 ≤ c ∧ c ≤ n ∧ S.failed.atKey (krs r) (n64 0) = n64 c
  cl : ∀ r : ByteArray, ∃ c : Int, 0 ≤ c ∧ c ≤ n ∧ S.closed.atKey (krs r) (n64 0) = n64 c

/-- 's.move(id, to)'. -/
def stMove (S : St) (id : Int) (to : Nat) : St :=
  if has S.conns (kid id) then { S with ga := bump (bump S.ga (valI (S.conns.atKey (kid id) (u8 0))).toNat (-1)) to 1, conns := S.conns.put (kid id) (u8 to) } else S
/-- 's.waits.add(d)'. -/
def stAdd (S : St) (d : Int) : St :=
  { S with count := S.count + 1, total := if 9223372036854775807 - max d 0 < S.total then 9223372036854775807 else S.total + max d 0, mx := max S.mx (max d 0), bk := bump S.bk (bkt (max d 0).toNat) 1 }

theorem add_any (b : Nat) (lk : Int) (mc mf ml n N : Nat) (S : St) (d : Int) (w : World) (h : Col w b lk mc mf ml N S) (hcount : 0 ≤ S.count ∧ S.count ≤ n) (htotal : 0 ≤ S.total ∧ S.total ≤ 9223372036854775807) (hmx : 0 ≤ S.mx ∧ S.mx ≤ 9223372036854775807) (hbk : ∀ i, 0 ≤ S.bk i ∧ S.bk i ≤ n) (hn : n ≤ 100000) (hd : d ≤ 9223372036854775807) :
    Calls Try.prog 34 #[.pointer (some ⟨b, 11, none⟩), .int .i64 d] w fun e w' => e = .returned (.tuple #[]) ∧ Col w' b lk mc mf ml N (stAdd S d) ∧ Frm (Touch b mc mf ml) w w' := by
  obtain ⟨dn, hdn⟩ : ∃ dn : Nat, max d 0 = (dn : Int) := Int.eq_ofNat_of_zero_le (by omega)
  have hlt : dn < 9223372036854775808 := by omega
  have hj := bkt_lt dn (by omega)
  have c4 := h.row.cell (14 + bkt dn) (by omega)
  have e4 : cellsOf lk S (.map (some mc)) (.map (some mf)) (.map (some ml)) (14 + bkt dn) = .int .i64 (S.bk (bkt dn)) := by
    unfold cellsOf
    simp only [show ¬ (14 + bkt dn = 0) by omega, show ¬ (14 + bkt dn = 1) by omega, show ¬ (14 + bkt dn = 2) by omega, show ¬ (14 + bkt dn < 6) by omega, show ¬ (14 + bkt dn = 6) by omega, show ¬ (14 + bkt dn = 7) by omega, show ¬ (14 + bkt dn = 8) by omega, show ¬ (14 + bkt dn = 9) by omega, show ¬ (14 + bkt dn = 10) by omega, show ¬ (14 + bkt dn = 11) by omega, show ¬ (14 + bkt dn = 12) by omega, show ¬ (14 + bkt dn = 13) by omega, if_false, Nat.add_sub_cancel_left]
  rw [e4] at c4
  refine (add_raw b d S.count S.total S.mx (S.bk (bkt dn)) dn (bkt dn) w hdn hlt rfl hj ⟨hcount.1, by omega⟩ htotal hmx ⟨(hbk _).1, by have := (hbk (bkt dn)).2; omega⟩ (h.row.cell 11 (by omega)) (h.row.cell 12 (by omega)) (h.row.cell 13 (by omega)) c4 (h.row.free _) (h.row.free _) (h.row.free _) (h.row.free _)).mono ?_
  rintro e w' ⟨rfl, q, rfl⟩
  refine ⟨rfl, ?_, (((((Frm.refl _ w).setCell (Or.inl rfl) _).setCell (Or.inl rfl) _).setCell (Or.inl rfl) _).setCell (Or.inl rfl) _).drewN q⟩
  refine Col.drewN ?_ q
  have h1 := h.store (lk' := lk) (S' := { S with count := S.count + 1 }) 11 (.int .i64 (S.count + 1)) rfl rfl rfl (fun k hk => by
    unfold upd cellsOf
    by_cases e : k = 11
    · subst e; simp
    · rw [if_neg e]; simp only [e, if_false])
  have h2 := h1.store (lk' := lk) (S' := { S with count := S.count + 1, total := if 9223372036854775807 - (dn : Int) < S.total then 9223372036854775807 else S.total + dn }) 12 (.int .i64 (if 9223372036854775807 - (dn : Int) < S.total then 9223372036854775807 else S.total + dn)) rfl rfl rfl (fun k hk => by
    unfold upd cellsOf
    by_cases e : k = 12
    · subst e; simp
    · rw [if_neg e]; simp only [e, if_false])
  have h3 := h2.store (lk' := lk) (S' := { S with count := S.count + 1, total := if 9223372036854775807 - (dn : Int) < S.total then 9223372036854775807 else S.total + dn, mx := max S.mx dn }) 13 (.int .i64 (max S.mx dn)) rfl rfl rfl (fun k hk => by
    unfold upd cellsOf
    by_cases e : k = 13
    · subst e; simp
    · rw [if_neg e]; simp only [e, if_false])
  refine h3.store (lk' := lk) (S' := stAdd S d) (14 + bkt dn) (.int .i64 (S.bk (bkt dn) + 1)) rfl rfl rfl (fun k hk => ?_)
  have eb : bkt (max d 0).toNat = bkt dn := by rw [hdn]; rfl
  unfold upd cellsOf stAdd bump
  rw [eb, hdn]
  by_cases e : k = 14 + bkt dn
  · subst e
    simp only [show ¬ (14 + bkt dn = 0) by omega, show ¬ (14 + bkt dn = 1) by omega, show ¬ (14 + bkt dn = 2) by omega, show ¬ (14 + bkt dn < 6) by omega, show ¬ (14 + bkt dn = 6) by omega, show ¬ (14 + bkt dn = 7) by omega, show ¬ (14 + bkt dn = 8) by omega, show ¬ (14 + bkt dn = 9) by omega, show ¬ (14 + bkt dn = 10) by omega, show ¬ (14 + bkt dn = 11) by omega, show ¬ (14 + bkt dn = 12) by omega, show ¬ (14 + bkt dn = 13) by omega, if_false, if_true, Nat.add_sub_cancel_left]
  · rw [if_neg e]
    by_cases e1 : k < 14
    · have e2 : k = 0 ∨ k = 1 ∨ k = 2 ∨ k = 3 ∨ k = 4 ∨ k = 5 ∨ k = 6 ∨ k = 7 ∨ k = 8 ∨ k = 9 ∨ k = 10 ∨ k = 11 ∨ k = 12 ∨ k = 13 := by omega
      rcases e2 with rfl | rfl | rfl | rfl | rfl | rfl | rfl | rfl | rfl | rfl | rfl | rfl | rfl | rfl
      all_goals rfl
    · have e2 : ¬ (k - 14 = bkt dn) := by omega
      simp only [e2, if_false]

theorem cells_ga (lk : Int) (S : St) (mc mf ml : Value) (i : Nat) (hi : i < 3) : cellsOf lk S mc mf ml (3 + i) = .int .i64 (S.ga i) := by
  unfold cellsOf
  simp only [show ¬ (3 + i = 0) by omega, show ¬ (3 + i = 1) by omega, show ¬ (3 + i = 2) by omega, show 3 + i < 6 by omega, if_false, if_true, Nat.add_sub_cancel_left]
theorem cells_bump (lk : Int) (S : St) (mc mf ml : Value) (i : Nat) (hi : i < 3) (x : Int) (k : Nat) : upd (cellsOf lk S mc mf ml) (3 + i) (.int .i64 (S.ga i + x)) k = cellsOf lk { S with ga := bump S.ga i x } mc mf ml k := by
  unfold upd
  by_cases e : k = 3 + i
  · subst e
    rw [if_pos rfl, cells_ga _ _ _ _ _ i hi]
    simp [bump]
  · rw [if_neg e]
    unfold cellsOf
    by_cases e2 : k < 6
    · by_cases e3 : 3 ≤ k
      · have : bump S.ga i x (k - 3) = S.ga (k - 3) := by unfold bump; rw [if_neg (by omega)]
        simp only [this]
      · have e4 : k = 0 ∨ k = 1 ∨ k = 2 := by omega
        rcases e4 with rfl | rfl | rfl <;> rfl
    · simp only [e2, if_false]

set_option maxRecDepth 20000 in
set_option maxHeartbeats 4000000 in
theorem move_raw (b mc : Nat) (id ga gt : Int) (s to : Nat) (w w2 w3 : World) (hs : s < 3) (hto : to < 3) (ok : Bool)
    (c2 : w.cell? ⟨b, 2, none⟩ = some (.map (some mc)))
    (hl : (Instr.lookup 43 (.map (some mc)) (.int .i64 id) true).run Try.prog w = .ok (.tuple #[.int .u8 (s : Int), .bool ok]) w)
    (cg : w.cell? ⟨b, 3 + s, none⟩ = some (.int .i64 ga)) (fg : w.frozen? ⟨b, 3 + s, none⟩ = false) (hga : -1000000 ≤ ga ∧ ga ≤ 1000000)
    (hw2 : (w.setCell ⟨b, 3 + s, none⟩ (.int .i64 (ga - 1))).drew = w2)
    (ct : w2.cell? ⟨b, 3 + to, none⟩ = some (.int .i64 gt)) (ft : w2.frozen? ⟨b, 3 + to, none⟩ = false) (hgt : -1000000 ≤ gt ∧ gt ≤ 1000000)
    (hw3 : (w2.setCell ⟨b, 3 + to, none⟩ (.int .i64 (gt + 1))).drew = w3)
    (c3 : w3.cell? ⟨b, 2, none⟩ = some (.map (some mc)))
    (w4 : World) (hu : (Instr.mapUpdate 43 (.map (some mc)) (.int .i64 id) (.int .u8 (to : Int))).run Try.prog w3 = .ok () w4) :
    Calls Try.prog 33 #[.pointer (some ⟨b, 0, none⟩), .int .i64 id, .int .u8 (to : Int)] w fun e w' => e = .returned (.tuple #[]) ∧ w' = if ok then w4 else w := by
  have hsI : (s : Int) < 3 := by omega
  have htI : (to : Int) < 3 := by omega
  have HW2 := hide hw2
  have HW3 := hide hw3
  clear hw2 hw3
  cases ok
  · go_enter Try.func33, Try.ntmps33
    go_wp2_with fail
    refine bodyPost_ret (results_none rfl _ _ _) rfl ?_
    exact ⟨rfl, rfl⟩
  · go_enter Try.func33, Try.ntmps33
    go_wp2_with fail
    go_region
    rw [unhide HW2]
    go_wp2_with fail
    go_region
    rw [unhide HW3]
    go_wp2_with fail
    go_end0
    exact ⟨rfl, rfl⟩

/-- 'move', at the collector. -/
theorem move_any (b : Nat) (lk : Int) (mc mf ml n N : Nat) (S : St) (id : Int) (to : Nat) (w : World) (h : Col w b lk mc mf ml N S) (hb : Bd n S) (hn : n ≤ 100000) (hN : N ≤ 100000) (hto : to < 3) (hid : (Lit.int .i64 id).wf = true) :
    Calls Try.prog 33 #[.pointer (some ⟨b, 0, none⟩), .int .i64 id, .int .u8 (to : Int)] w fun e w' => e = .returned (.tuple #[]) ∧ Col w' b lk mc mf ml (N + 1) (stMove S id to) ∧ Frm (Touch b mc mf ml) w w' := by
  have hkey := keyOf_int_mk Try.underlying2 hid
  obtain ⟨v, ps, hl, hv⟩ := h.oc.look_ok law2 Try.underlying43 (zero76 w) (plainElem_int Try.underlying76 (by decide)) hkey
  obtain ⟨c, rfl, hc, hwc⟩ := plainElem_int_inv Try.underlying76 hv
  obtain ⟨s, hs, hat⟩ := hb.st id
  have hcs : c = (s : Int) := by
    simp only [Prod.mk.injEq] at hc
    exact congrArg valI (hc.1.symm.trans hat)
  subst hcs
  have g1 := h.row.cell (3 + s) (by omega)
  rw [cells_ga _ _ _ _ _ s hs] at g1
  obtain ⟨w2, hw2⟩ : ∃ w2, (w.setCell ⟨b, 3 + s, none⟩ (.int .i64 (S.ga s - 1))).drew = w2 := ⟨_, rfl⟩
  have h2 : Col w2 b lk mc mf ml N { S with ga := bump S.ga s (-1) } := by
    rw [← hw2]
    refine Col.drew (h.store (lk' := lk) (S' := { S with ga := bump S.ga s (-1) }) (3 + s) (.int .i64 (S.ga s - 1)) rfl rfl rfl (fun k hk => ?_))
    rw [show S.ga s - 1 = S.ga s + -1 by omega]
    exact cells_bump lk S _ _ _ s hs (-1) k
  have g2 := h2.row.cell (3 + to) (by omega)
  rw [cells_ga _ _ _ _ _ to hto] at g2
  obtain ⟨gt, hgt⟩ : ∃ gt, bump S.ga s (-1) to = gt := ⟨_, rfl⟩
  have hgb : -1000000 ≤ gt ∧ gt ≤ 1000000 := by
    have := hb.ga to
    rw [← hgt]
    unfold bump
    split <;> omega
  simp only [hgt] at g2
  obtain ⟨w3, hw3⟩ : ∃ w3, (w2.setCell ⟨b, 3 + to, none⟩ (.int .i64 (gt + 1))).drew = w3 := ⟨_, rfl⟩
  have h3 : Col w3 b lk mc mf ml N { S with ga := bump (bump S.ga s (-1)) to 1 } := by
    rw [← hw3]
    refine Col.drew (h2.store (lk' := lk) (S' := { S with ga := bump (bump S.ga s (-1)) to 1 }) (3 + to) (.int .i64 (gt + 1)) rfl rfl rfl (fun k hk => ?_))
    rw [← hgt]
    exact cells_bump lk { S with ga := bump S.ga s (-1) } _ _ _ to hto 1 k
  obtain ⟨w4, hu, ho4, hg4⟩ := h3.oc.update law2 Try.underlying43 (by unfold maxLen; omega) hkey (plainElem_int Try.underlying76 (a := (to : Int)) (by
    have : to = 0 ∨ to = 1 ∨ to = 2 := by omega
    rcases this with rfl | rfl | rfl <;> decide))
  have h4 := h3.turnC (Nat.le_succ N) ho4 hg4
  refine (move_raw b mc id (S.ga s) gt s to w w2 w3 hs hto (has S.conns (kid id)) (h.row.cell 2 (by omega)) hl g1 (h.row.free _) (by have := hb.ga s; omega) hw2 g2 (h2.row.free _) hgb hw3 (h3.row.cell 2 (by omega)) w4 hu).mono ?_
  rintro e w' ⟨rfl, rfl⟩
  have hF : Frm (Touch b mc mf ml) w w4 := by
    refine Frm.grown ?_ hg4 (fun k hk => Or.inr (Or.inl (Option.some.inj hk).symm))
    rw [← hw3, ← hw2]
    exact ((((Frm.refl _ w).setCell (Or.inl rfl) _).drew).setCell (Or.inl rfl) _).drew
  refine ⟨rfl, ?_, ?_⟩
  · unfold stMove
    cases has S.conns (kid id)
    · exact h.mono (Nat.le_succ N)
    · simp only [if_true]
      rw [hat]
      exact h4
  · cases has S.conns (kid id)
    · exact Frm.refl _ w
    · exact hF
end Go.Proofs.Qxb6615473a
