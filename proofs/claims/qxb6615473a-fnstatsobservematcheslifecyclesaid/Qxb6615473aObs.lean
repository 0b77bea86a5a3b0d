import Derived.Test.Qxb6615473aEvent
import Derived.StringKeys
namespace Go.Proofs.Qxb6615473a
open Go.RowKit Go.Maps Go.MuLone
set_option linter.unusedVariables false

/-! ### the events' names -/
def tCreated : List UInt8 := [67, 111, 110, 110, 101, 99, 116, 105, 111, 110, 67, 114, 101, 97, 116, 101, 100]
def tReady : List UInt8 := [67, 111, 110, 110, 101, 99, 116, 105, 111, 110, 82, 101, 97, 100, 121]
def tIn : List UInt8 := [67, 111, 110, 110, 101, 99, 116, 105, 111, 110, 67, 104, 101, 99, 107, 101, 100, 73, 110]
def tOut : List UInt8 := [67, 111, 110, 110, 101, 99, 116, 105, 111, 110, 67, 104, 101, 99, 107, 101, 100, 79, 117, 116]
def tClosed : List UInt8 := [67, 111, 110, 110, 101, 99, 116, 105, 111, 110, 67, 108, 111, 115, 101, 100]
def tStarted : List UInt8 := [67, 111, 110, 110, 101, 99, 116, 105, 111, 110, 67, 104, 101, 99, 107, 79, 117, 116, 83, 116, 97, 114, 116, 101, 100]
def tFailed : List UInt8 := [67, 111, 110, 110, 101, 99, 116, 105, 111, 110, 67, 104, 101, 99, 107, 79, 117, 116, 70, 97, 105, 108, 101, 100]
def tHeld : List UInt8 := [67, 111, 110, 110, 101, 99, 116, 105, 111, 110, 72, 101, 108, 100, 84, 111, 111, 76, 111, 110, 103]

def stZero : St := { conns := .map [], failed := .map [], closed := .map [], ga := fun _ => 0, waiting := 0, created := 0, held := 0, count := 0, total := 0, mx := 0, bk := fun _ => 0 }

/-- The collector, its maps made from base on, or not yet made. -/
def Cb (base : Nat) (w : World) (b : Nat) (lk : Int) (N : Nat) (S : St) : Prop := ∃ mc mf ml, base ≤ mc ∧ base ≤ mf ∧ base ≤ ml ∧ Col w b lk mc mf ml N S
def Cz (w : World) (b : Nat) (S : St) : Prop := S = stZero ∧ RowAt w b 50 1902 (cellsOf 0 stZero (.map none) (.map none) (.map none))
/-- The event's own cells. -/
structure EvAt (w : World) (eb : Nat) (ty rs : ByteArray) (id d : Int) : Prop where
  c0 : w.cell? ⟨eb, 0, none⟩ = some (.string ty)
  c2 : w.cell? ⟨eb, 2, none⟩ = some (.int .i64 id)
  c3 : w.cell? ⟨eb, 3, none⟩ = some (.string rs)
  c4 : w.cell? ⟨eb, 4, none⟩ = some (.int .i64 d)

theorem Col.lockTo {w : World} {b mc mf ml n : Nat} {lk : Int} {S : St} (h : Col w b lk mc mf ml n S) (lk' : Int) : Col (w.setCell ⟨b, 0, none⟩ (.int .i32 lk')) b lk' mc mf ml n S :=
  h.store 0 _ rfl rfl rfl (fun k hk => by
    unfold upd cellsOf
    by_cases e : k = 0
    · subst e; simp
    · rw [if_neg e]; simp only [e, if_false])
theorem EvAt.same {w w' : World} {eb : Nat} {ty rs : ByteArray} {id d : Int} (h : EvAt w eb ty rs id d) (e : w'.heap[eb]? = w.heap[eb]?) : EvAt w' eb ty rs id d :=
  ⟨(World.cell?_of_block (w := w) e).trans h.c0, (World.cell?_of_block (w := w) e).trans h.c2, (World.cell?_of_block (w := w) e).trans h.c3, (World.cell?_of_block (w := w) e).trans h.c4⟩
theorem EvAt.lt {w : World} {eb : Nat} {ty rs : ByteArray} {id d : Int} (h : EvAt w eb ty rs id d) : eb < w.heap.size := World.block_lt_of_cell? w _ h.c0

/-- Where the switch begins. -/
def Mid (base : Nat) (w : World) (b eb N : Nat) (S : St) (ty rs : ByteArray) (id d : Int) (wx : World) : Prop := Cb base wx b 1 N S ∧ EvAt wx eb ty rs id d ∧ Below base w wx ∧ b ≠ eb
theorem q43 (w : World) (r : Option Nat) : (binOp .eql 43 (.map r) (.map none)).run Try.prog w = .ok (.bool r.isNone) w := run_eql_map_nil w _ _ _ r Try.underlying43

theorem szA (w : World) (o : Obj) : (w.alloc o).heap.size = w.heap.size + 1 := by show (w.heap.push o).size = _; simp
theorem made_cols {w' : World} {base b : Nat} (N : Nat) (hrow : RowAt w' b 50 1902 (cellsOf 1 stZero (.map none) (.map none) (.map none))) (hb : base ≤ w'.heap.size) :
    Cb base (((((( w'.setCell ⟨b, 2, none⟩ (.map (some w'.heap.size))).setCell ⟨b, 8, none⟩ (.map (some (w'.heap.size + 1)))).setCell ⟨b, 9, none⟩ (.map (some (w'.heap.size + 1 + 1)))).alloc (.map #[] 0)).alloc (.map #[] 0)).alloc (.map #[] 0)) b 1 N stZero := by
  obtain ⟨V, hV⟩ : ∃ V, ((w'.setCell ⟨b, 2, none⟩ (.map (some w'.heap.size))).setCell ⟨b, 8, none⟩ (.map (some (w'.heap.size + 1)))).setCell ⟨b, 9, none⟩ (.map (some (w'.heap.size + 1 + 1))) = V := ⟨_, rfl⟩
  have hs : V.heap.size = w'.heap.size := by rw [← hV]; simp [World.setCell]
  have hs1 : (V.alloc (.map #[] 0)).heap.size = w'.heap.size + 1 := by show (V.heap.push _).size = _; rw [Array.size_push, hs]
  have hs2 : ((V.alloc (.map #[] 0)).alloc (.map #[] 0)).heap.size = w'.heap.size + 1 + 1 := by show ((V.alloc (.map #[] 0)).heap.push _).size = _; rw [Array.size_push, hs1]
  have hrV : RowAt V b 50 1902 (cellsOf 1 stZero (.map (some w'.heap.size)) (.map (some (w'.heap.size + 1))) (.map (some (w'.heap.size + 1 + 1)))) := by
    rw [← hV]
    refine (((hrow.store 2 _).store 8 _).store 9 _).congr (fun k hk => ?_)
    unfold upd cellsOf
    by_cases e9 : k = 9
    · subst e9; rfl
    · by_cases e8 : k = 8
      · subst e8; rfl
      · by_cases e2 : k = 2
        · subst e2; rfl
        · rw [if_neg e9, if_neg e8, if_neg e2]; simp only [e9, e8, e2, if_false]
  have hlt := hrV.lt
  rw [hV]
  refine ⟨w'.heap.size, w'.heap.size + 1, w'.heap.size + 1 + 1, hb, by omega, by omega, ?_, ?_, ?_, ?_, by omega, by omega, by omega⟩
  · refine hrV.same ?_
    rw [Below.heap_alloc _ _ _ (by rw [hs2]; omega), Below.heap_alloc _ _ _ (by rw [hs1]; omega), Below.heap_alloc _ _ _ hlt]
  · have := ((World.ownsMap_made V Try.prog 2 (plainElem (H := Unit) Try.prog 76)).alloc (.map #[] 0)).alloc (.map #[] 0)
    rw [hs] at this
    exact this.mono (Nat.zero_le N)
  · have := (World.ownsMap_made (V.alloc (.map #[] 0)) Try.prog 53 (plainElem (H := Unit) Try.prog 2)).alloc (.map #[] 0)
    rw [hs1] at this
    exact this.mono (Nat.zero_le N)
  · have := World.ownsMap_made ((V.alloc (.map #[] 0)).alloc (.map #[] 0)) Try.prog 53 (plainElem (H := Unit) Try.prog 2)
    rw [hs2] at this
    exact this.mono (Nat.zero_le N)

def stWait (S : St) (x : Int) : St := { S with waiting := S.waiting + x }
def stDrop (S : St) (id : Int) : St :=
  if has S.conns (kid id) then { S with ga := bump S.ga (valI (S.conns.atKey (kid id) (u8 0))).toNat (-1), conns := S.conns.del (kid id) } else S
def stTally (S : St) (rs : ByteArray) : St := { S with closed := S.closed.put (krs rs) (n64 (valI (S.closed.atKey (krs rs) (n64 0)) + 1)) }
def stFail (S : St) (rs : ByteArray) : St := { S with failed := S.failed.put (krs rs) (n64 (valI (S.failed.atKey (krs rs) (n64 0)) + 1)) }
/-- What one event makes of the collector. -/
def obs (S : St) (ty rs : ByteArray) (id d : Int) : St :=
  if (ty.toList == tCreated) = true then { S with created := S.created + 1, conns := S.conns.put (kid id) (u8 0), ga := bump S.ga 0 1 }
  else if (ty.toList == tReady) = true then stMove S id 1
  else if (ty.toList == tIn) = true then stMove S id 1
  else if (ty.toList == tOut) = true then stAdd (stWait (stMove S id 2) (-1)) d
  else if (ty.toList == tClosed) = true then stTally (stDrop S id) rs
  else if (ty.toList == tStarted) = true then stWait S 1
  else if (ty.toList == tFailed) = true then stFail (stWait S (-1)) rs
  else if (ty.toList == tHeld) = true then { S with held := S.held + 1 }
  else S
def ObPost (base : Nat) (w : World) (b N : Nat) (S' : St) (e : Ending) (w' : World) : Prop := e = .returned (.tuple #[]) ∧ Cb base w' b 0 (N + 1) S' ∧ Below base w w'

theorem door {wz : World} {b : Nat} {tmps : Array Value} {R : Ending → World → Prop} (l : wz.cell? ⟨b, 0, none⟩ = some (.int .i32 1)) (f : wz.frozen? ⟨b, 0, none⟩ = false) (hR : R (.returned (.tuple #[])) (wz.setCell ⟨b, 0, none⟩ (.int .i32 0))) :
    bodyPostD Try.prog Try.f15 R Exit.normal { tmps := tmps, defers := [{ target := Target.fn (Fn.func 32) #[], args := #[.pointer (some ⟨b, 0, none⟩)] }] } wz := by
  refine leaves_cons (f := 32) (args := #[.pointer (some ⟨b, 0, none⟩)]) (by simp) (by simp [go_sem]) ?_
  refine (unlock_deferred muLib ⟨b, 0, none⟩ .returning _ l f).mono ?_
  rintro e u' w'' ⟨rfl, rfl, rfl⟩
  exact ⟨_, results_none rfl _ _ _, hR⟩
theorem door_col {base b mc mf ml N : Nat} {w wz : World} {S S' : St} {tmps : Array Value} (h : Col wz b 1 mc mf ml (N + 1) S) (e : S = S') (m1 : base ≤ mc) (m2 : base ≤ mf) (m3 : base ≤ ml) (hb : base ≤ b) (hbel : Below base w wz) :
    bodyPostD Try.prog Try.f15 (fun e w' => ObPost base w b N S' e w') Exit.normal { tmps := tmps, defers := [{ target := Target.fn (Fn.func 32) #[], args := #[.pointer (some ⟨b, 0, none⟩)] }] } wz :=
  door (h.row.cell 0 (by omega)) (h.row.free 0) ⟨rfl, ⟨mc, mf, ml, m1, m2, m3, by rw [← e]; exact h.lockTo 0⟩, hbel.setCell hb _⟩
theorem touch_below {base b mc mf ml : Nat} {w w' w0 : World} (hf : Frm (Touch b mc mf ml) w w') (hb : base ≤ b) (m1 : base ≤ mc) (m2 : base ≤ mf) (m3 : base ≤ ml) (hbel : Below base w0 w) (h0 : base ≤ w0.heap.size) : Below base w0 w' :=
  hbel.trans (hf.below (Nat.le_trans h0 hbel.size) (fun k hk t => by rcases t with e | e | e | e <;> omega))

/-- Behind Lock: the maps stand, or none does. -/
def Two (base : Nat) (w : World) (b N : Nat) (S : St) (r : Option Nat) : Prop :=
  w.cell? ⟨b, 2, none⟩ = some (.map r) ∧ ((r ≠ none ∧ Cb base w b 1 N S) ∨ (r = none ∧ S = stZero ∧ RowAt w b 50 1902 (cellsOf 1 stZero (.map none) (.map none) (.map none))))
theorem two_of {base b N : Nat} {S : St} {w w1 : World} (hpre : Cb base w b 0 N S ∨ Cz w b S) (hf : Frm (fun k => w.heap.size ≤ k) w w1) : ∃ r, Two base (w1.setCell ⟨b, 0, none⟩ (.int .i32 1)) b N S r := by
  rcases hpre with ⟨mc, mf, ml, h1, h2, h3, h⟩ | ⟨rfl, h⟩
  · have h' := (h.kept hf).lockTo 1
    exact ⟨some mc, h'.row.cell 2 (by omega), Or.inl ⟨by simp, mc, mf, ml, h1, h2, h3, h'⟩⟩
  · have h' := ((h.same (hf.block b h.lt (by have := h.lt; omega))).store 0 (.int .i32 1)).congr (c' := cellsOf 1 stZero (.map none) (.map none) (.map none)) (fun k hk => by
      unfold upd cellsOf
      by_cases e : k = 0
      · subst e; simp
      · rw [if_neg e]; simp only [e, if_false])
    exact ⟨none, h'.cell 2 (by omega), Or.inr ⟨rfl, rfl, h'⟩⟩

set_option maxRecDepth 20000 in
set_option maxHeartbeats 4000000 in
theorem observe_any (base b n N : Nat) (S : St) (ty rs : ByteArray) (id d : Int) (w : World) (hpre : Cb base w b 0 N S ∨ Cz w b S) (hbase : base ≤ b) (hb : Bd n S) (hn : n ≤ 50000) (hN : N ≤ 50000) (hid : (Lit.int .i64 id).wf = true) (hd : d ≤ 9223372036854775807) (hrs : rs.size ≤ maxLen) (hbl : b < w.heap.size) (hbw : base ≤ w.heap.size) :
    Calls Try.prog 15 #[.pointer (some ⟨b, 0, none⟩), .agg (evCells ty rs id d)] w fun e w' => ObPost base w b N (obs S ty rs id d) e w' := by
  obtain ⟨w1, hw1⟩ : ∃ w1, w.alloc (.cells (evCells ty rs id d) 55) = w1 := ⟨_, rfl⟩
  have hw1H := hide hw1
  have l0 : w1.cell? ⟨b, 0, none⟩ = some (.int .i32 0) := by
    rw [← hw1]
    have hh : w.cell? ⟨b, 0, none⟩ = some (.int .i32 0) := by
      rcases hpre with ⟨mc, mf, ml, _, _, _, h⟩ | ⟨_, h⟩
      · exact h.row.cell 0 (by omega)
      · exact h.cell 0 (by omega)
    rw [World.cell?_of_block (w := w) (Below.heap_alloc w _ b hbl)]
    exact hh
  have f0 : w1.frozen? ⟨b, 0, none⟩ = false := by
    have hr : ∃ c, RowAt w1 b 50 1902 c := by
      rcases hpre with ⟨mc, mf, ml, _, _, _, h⟩ | ⟨_, h⟩
      · exact ⟨_, h.row.same (by rw [← hw1]; exact Below.heap_alloc w _ b hbl)⟩
      · exact ⟨_, h.same (by rw [← hw1]; exact Below.heap_alloc w _ b hbl)⟩
    obtain ⟨c, hr⟩ := hr
    exact hr.free 0
  obtain ⟨eb, heb⟩ : ∃ eb, w.heap.size = eb := ⟨_, rfl⟩
  have HEB := hide heb
  have q43' := q43
  go_enter_defers Try.func15, Try.ntmps15
  go_wp2_with fail
  refine (lock_free muLib ⟨b, 0, none⟩ w1 l0 f0).mono ?_
  rintro e w' ⟨rfl, hw2⟩
  obtain ⟨r, hr2, htwo⟩ := two_of (w1 := w1) hpre (by rw [← hw1]; exact (Frm.refl _ w).alloc _)
  have hev : EvAt w1 eb ty rs id d := by
    rw [← hw1, ← heb]
    have hh := heap_alloc_new w (.cells (evCells ty rs id d) 55)
    exact ⟨cell_of_row _ _ _ _ _ _ hh, cell_of_row _ _ _ _ _ _ hh, cell_of_row _ _ _ _ _ _ hh, cell_of_row _ _ _ _ _ _ hh⟩
  have hbe : b ≠ eb := by omega
  have hev2 : EvAt w' eb ty rs id d := hev.same (by rw [hw2]; exact Below.heap_setCell _ _ _ _ (fun e => hbe e.symm))
  have hbel : Below base w w' := by rw [hw2, ← hw1]; exact ((Below.refl _ _).alloc hbw _).setCell hbase _
  rw [← hw2] at hr2 htwo
  have HTWO := hide htwo
  have HEV := hide hev2
  have HBEL := hide hbel
  have HW2 := hide hw2
  clear hw2 htwo hev hev2 hbel hpre
  go_upto_if 17 with (fail)
  go_cut [] from 6 (fun wx => Hid (Mid base w b eb N S ty rs id d wx))
  case first =>
    cases r with
    | some mc =>
      go_wp2_with fail
      go_meet
      case rel =>
        rcases unhide HTWO with ⟨_, h⟩ | ⟨h, _⟩
        · exact hide ⟨h, unhide HEV, unhide HBEL, hbe⟩
        · cases h
    | none =>
      obtain ⟨hS, hrow⟩ : S = stZero ∧ RowAt w' b 50 1902 (cellsOf 1 stZero (.map none) (.map none) (.map none)) := by
        rcases unhide HTWO with ⟨h, _⟩ | ⟨_, h1, h2⟩
        · exact absurd rfl h
        · exact ⟨h1, h2⟩
      have c8 : w'.cell? ⟨b, 8, none⟩ = some (.map none) := hrow.cell 8 (by omega)
      have c9 : w'.cell? ⟨b, 9, none⟩ = some (.map none) := hrow.cell 9 (by omega)
      have hbl' := hrow.lt
      have hbl1 : b < w'.heap.size + 1 := by omega
      have hbl2 : b < w'.heap.size + 1 + 1 := by omega
      have f2 := hrow.free 2
      have f8 := hrow.free 8
      have f9 := hrow.free 9
      have HROW := hide hrow
      have HSZ := hide hS
      have k43 : ∀ w : World, (Instr.makeMap 43 none).run Try.prog w = .ok (.map (some w.heap.size)) (w.alloc (.map #[] 0)) := fun w => run_makeMap 43 w
      have k45 : ∀ w : World, (Instr.makeMap 45 none).run Try.prog w = .ok (.map (some w.heap.size)) (w.alloc (.map #[] 0)) := fun w => run_makeMap 45 w
      clear hrow hS
      go_wp2_with fail
      go_meet
      case rel =>
        have hbw' : base ≤ w'.heap.size := Nat.le_trans hbw (unhide HBEL).size
        have hev' := unhide HEV
        have hevl := hev'.lt
        have hs0 : (((w'.setCell ⟨b, 2, none⟩ (.map (some w'.heap.size))).setCell ⟨b, 8, none⟩ (.map (some (w'.heap.size + 1)))).setCell ⟨b, 9, none⟩ (.map (some (w'.heap.size + 1 + 1)))).heap.size = w'.heap.size := by simp [World.setCell]
        refine hide ⟨by rw [unhide HSZ]; exact made_cols N (unhide HROW) hbw', hev'.same ?_, ?_, hbe⟩
        · rw [Below.heap_alloc _ _ _ (by rw [szA, szA, hs0]; omega), Below.heap_alloc _ _ _ (by rw [szA, hs0]; omega), Below.heap_alloc _ _ _ (by rw [hs0]; exact hevl), Below.heap_setCell _ _ _ _ (fun e => hbe e.symm), Below.heap_setCell _ _ _ _ (fun e => hbe e.symm), Below.heap_setCell _ _ _ _ (fun e => hbe e.symm)]
        · exact ((((((unhide HBEL).setCell hbase _).setCell hbase _).setCell hbase _).alloc (by rw [hs0]; exact hbw') _).alloc (by rw [szA, hs0]; omega) _).alloc (by rw [szA, szA, hs0]; omega) _
  case rest =>
    obtain ⟨⟨mc, mf, ml, m1, m2, m3, hcol⟩, hev, hbel, _⟩ := unhide hcut
    obtain ⟨e0, e2, e3, e4⟩ := hev
    have HCOL := hide hcol
    have HBEL2 := hide hbel
    clear hcol hbel hcut
    have hkey := keyOf_int_mk Try.underlying2 hid
    have hcol := unhide HCOL
    have hbel := unhide HBEL2
    have hbwc : base ≤ wc.heap.size := Nat.le_trans hbw hbel.size
    have EBC : eb ≠ mc := fun e => by
      obtain ⟨es, clock, h'⟩ := owns_map hcol.oc
      rw [← e] at h'
      have := e0
      rw [World.cell?, h'] at this
      cases this
    have EBF : eb ≠ mf := fun e => by
      obtain ⟨es, clock, h'⟩ := owns_map hcol.of
      rw [← e] at h'
      have := e0
      rw [World.cell?, h'] at this
      cases this
    have EBL : eb ≠ ml := fun e => by
      obtain ⟨es, clock, h'⟩ := owns_map hcol.ol
      rw [← e] at h'
      have := e0
      rw [World.cell?, h'] at this
      cases this
    clear HCOL HBEL2
    cases q1 : (ty.toList == [67, 111, 110, 110, 101, 99, 116, 105, 111, 110, 67, 114, 101, 97, 116, 101, 100])
    rotate_left
    · have hcr := hb.created
      have hc7 : wc.cell? ⟨b, 7, none⟩ = some (.int .i64 S.created) := hcol.row.cell 7 (by omega)
      have hf7 := hcol.row.free 7
      have hga := hb.ga 0
      obtain ⟨wa, hwa⟩ : ∃ wa, wc.setCell ⟨b, 7, none⟩ (.int .i64 (S.created + 1)) = wa := ⟨_, rfl⟩
      have hca : Col wa b 1 mc mf ml N { S with created := S.created + 1 } := by
        rw [← hwa]
        exact hcol.store 7 _ rfl rfl rfl (fun k hk => by
          unfold upd cellsOf
          by_cases e : k = 7
          · subst e; simp
          · rw [if_neg e]; simp only [e, if_false])
      obtain ⟨wb, hu, hob, hgb⟩ := hca.oc.drew.update law2 Try.underlying43 (by unfold maxLen; omega) hkey (plainElem_int (H := Unit) Try.underlying76 (a := 0) (by decide))
      have ca2 : wa.cell? ⟨b, 2, none⟩ = some (.map (some mc)) := hca.row.cell 2 (by omega)
      have hcb := hca.drew.turnC (Nat.le_succ N) hob hgb
      have cb3 : wb.cell? ⟨b, 3, none⟩ = some (.int .i64 (S.ga 0)) := hcb.row.cell 3 (by omega)
      have fb3 := hcb.row.free 3
      have ea2 : wa.cell? ⟨eb, 2, none⟩ = some (.int .i64 id) := by rw [← hwa, World.cell?_setCell_other _ _ _ _ (by simp)]; exact e2
      have hcz : Col (wb.setCell ⟨b, 3, none⟩ (.int .i64 (S.ga 0 + 1))).drew b 1 mc mf ml (N + 1) { S with created := S.created + 1, conns := S.conns.put (kid id) (Go.Proofs.Qxb6615473a.u8 0), ga := bump S.ga 0 1 } :=
        Col.drew (hcb.store 3 _ rfl rfl rfl (fun k hk => cells_bump 1 { S with created := S.created + 1, conns := S.conns.put (kid id) (Go.Proofs.Qxb6615473a.u8 0) } _ _ _ 0 (by omega) 1 k))
      have hbz : Below base w (wb.setCell ⟨b, 3, none⟩ (.int .i64 (S.ga 0 + 1))).drew := by
        rw [← hwa] at hgb
        exact (Below.drew (Below.setCell (Below.grown (Below.drew (hbel.setCell hbase _)) hgb (Nat.le_trans hbwc (by simp [World.setCell, World.drew])) (fun k hk => by obtain rfl := Option.some.inj hk; exact m1)) hbase _))
      have HWA := hide hwa
      have HCZ := hide hcz
      have HBZ := hide hbz
      clear hwa hca hob hgb hcb hcz hbz hcol hbel hb
      go_wp2_with fail
      rw [unhide HWA]
      go_region
      go_wp2_with fail
      go_region
      go_wp2_with fail
      exact door_col (unhide HCZ) (by unfold obs; rw [if_pos (show (ty.toList == tCreated) = true from q1)]) m1 m2 m3 hbase (unhide HBZ)
    cases q2 : (ty.toList == [67, 111, 110, 110, 101, 99, 116, 105, 111, 110, 82, 101, 97, 100, 121])
    rotate_left
    · have C := hide (move_any b 1 mc mf ml n N S id 1 wc hcol hb (by omega) (by omega) (by omega) hid)
      have HB := hide hb
      have HBEL2 := hide hbel
      clear hcol hbel hb
      go_wp2_with fail
      refine (unhide C).mono ?_
      rintro e wz ⟨rfl, hcz, hfr⟩
      have HCZ := hide hcz
      have HBZ := hide (touch_below hfr hbase m1 m2 m3 (unhide HBEL2) hbw)
      clear hcz hfr
      go_wp2_with fail
      exact door_col (unhide HCZ) (by unfold obs; rw [if_neg (show ¬ (ty.toList == tCreated) = true from by rw [show (ty.toList == tCreated) = false from q1]; simp), if_pos (show (ty.toList == tReady) = true from q2)]) m1 m2 m3 hbase (unhide HBZ)
    cases q3 : (ty.toList == [67, 111, 110, 110, 101, 99, 116, 105, 111, 110, 67, 104, 101, 99, 107, 101, 100, 73, 110])
    rotate_left
    · have C := hide (move_any b 1 mc mf ml n N S id 1 wc hcol hb (by omega) (by omega) (by omega) hid)
      have HB := hide hb
      have HBEL2 := hide hbel
      clear hcol hbel hb
      go_wp2_with fail
      refine (unhide C).mono ?_
      rintro e wz ⟨rfl, hcz, hfr⟩
      have HCZ := hide hcz
      have HBZ := hide (touch_below hfr hbase m1 m2 m3 (unhide HBEL2) hbw)
      clear hcz hfr
      go_wp2_with fail
      exact door_col (unhide HCZ) (by unfold obs; rw [if_neg (show ¬ (ty.toList == tCreated) = true from by rw [show (ty.toList == tCreated) = false from q1]; simp), if_neg (show ¬ (ty.toList == tReady) = true from by rw [show (ty.toList == tReady) = false from q2]; simp), if_pos (show (ty.toList == tIn) = true from q3)]) m1 m2 m3 hbase (unhide HBZ)
    cases q4 : (ty.toList == [67, 111, 110, 110, 101, 99, 116, 105, 111, 110, 67, 104, 101, 99, 107, 101, 100, 79, 117, 116])
    rotate_left
    · have C := hide (move_any b 1 mc mf ml n N S id 2 wc hcol hb (by omega) (by omega) (by omega) hid)
      have HB := hide hb
      have HBEL2 := hide hbel
      have hmc : Hid ((stMove S id 2).count = S.count ∧ (stMove S id 2).total = S.total ∧ (stMove S id 2).mx = S.mx ∧ (stMove S id 2).bk = S.bk ∧ (stMove S id 2).waiting = S.waiting) := hide (by
        unfold stMove
        split <;> exact ⟨rfl, rfl, rfl, rfl, rfl⟩)
      clear hcol hbel hb
      go_wp2_with fail
      refine (unhide C).mono ?_
      rintro e wz ⟨rfl, hcz, hfr⟩
      obtain ⟨g1, g2, g3, g4, g5⟩ := unhide hmc
      have hww := (unhide HB).waiting
      have hc6 : wz.cell? ⟨b, 6, none⟩ = some (.int .i64 S.waiting) := by rw [← g5]; exact hcz.row.cell 6 (by omega)
      have hf6 := hcz.row.free 6
      have e4z : wz.cell? ⟨eb, 4, none⟩ = some (.int .i64 d) := (World.cell?_of_block (w := wc) (hfr.block eb (World.block_lt_of_cell? wc _ e4) (fun t => by
        rcases t with t | t | t | t
        · exact hbe t.symm
        · exact EBC t
        · exact EBF t
        · exact EBL t))).trans e4
      obtain ⟨wa, hwa⟩ : ∃ wa, wz.setCell ⟨b, 6, none⟩ (.int .i64 (S.waiting - 1)) = wa := ⟨_, rfl⟩
      have hca : Col wa b 1 mc mf ml (N + 1) (stWait (stMove S id 2) (-1)) := by
        rw [← hwa]
        exact hcz.store 6 _ rfl rfl rfl (fun k hk => by
          unfold upd cellsOf stWait
          by_cases e : k = 6
          · subst e; simp [g5, Int.sub_eq_add_neg]
          · rw [if_neg e]; simp only [e, if_false])
      have ea4 : wa.cell? ⟨eb, 4, none⟩ = some (.int .i64 d) := by rw [← hwa, World.cell?_setCell_other _ _ _ _ (by simp)]; exact e4z
      have hba : Below base w wa := by rw [← hwa]; exact (touch_below hfr hbase m1 m2 m3 (unhide HBEL2) hbw).setCell hbase _
      have A : ∀ wq : World, Hid (Col wq b 1 mc mf ml (N + 1) (stWait (stMove S id 2) (-1)) → Calls Try.prog 34 #[.pointer (some ⟨b, 11, none⟩), .int .i64 d] wq fun e w' => e = .returned (.tuple #[]) ∧ Col w' b 1 mc mf ml (N + 1) (stAdd (stWait (stMove S id 2) (-1)) d) ∧ Frm (Touch b mc mf ml) wq w') := fun wq => hide (fun hq => add_any b 1 mc mf ml n (N + 1) _ d wq hq (by show 0 ≤ (stMove S id 2).count ∧ _; rw [show (stWait (stMove S id 2) (-1)).count = S.count from g1, g1]; exact (unhide HB).count) (by show 0 ≤ (stMove S id 2).total ∧ (stMove S id 2).total ≤ _; rw [g2]; exact (unhide HB).total) (by show 0 ≤ (stMove S id 2).mx ∧ (stMove S id 2).mx ≤ _; rw [g3]; exact (unhide HB).mx) (by show ∀ i, 0 ≤ (stMove S id 2).bk i ∧ (stMove S id 2).bk i ≤ _; rw [g4]; exact (unhide HB).bk) (by omega) hd)
      have HCA := hide hca
      have HBA := hide hba
      have HWA := hide hwa
      clear hcz hfr hca hba hwa g1 g2 g3 g4 g5 hmc
      go_wp2_with fail
      rw [unhide HWA]
      refine wp_region_noPanic ?_
      go_region_with ((go_at_call 34; refine (unhide (A _) (unhide HCA).drew).mono ?_; rintro e wy ⟨rfl, hcy, hfy⟩))
      all_goals (refine NoPanic.normal ?_; go_wp2_with fail)
      all_goals exact door_col hcy (by unfold obs; rw [if_neg (show ¬ (ty.toList == tCreated) = true from by rw [show (ty.toList == tCreated) = false from q1]; simp), if_neg (show ¬ (ty.toList == tReady) = true from by rw [show (ty.toList == tReady) = false from q2]; simp), if_neg (show ¬ (ty.toList == tIn) = true from by rw [show (ty.toList == tIn) = false from q3]; simp), if_pos (show (ty.toList == tOut) = true from q4)]) m1 m2 m3 hbase (touch_below hfy hbase m1 m2 m3 (unhide HBA).drew hbw)
    cases q5 : (ty.toList == [67, 111, 110, 110, 101, 99, 116, 105, 111, 110, 67, 108, 111, 115, 101, 100])
    rotate_left
    · obtain ⟨s, hs, hat⟩ := hb.st id
      obtain ⟨v, ps, hl, hv⟩ := hcol.oc.drew.look_ok law2 Try.underlying43 (zero76 _) (plainElem_int (H := Unit) Try.underlying76 (by decide)) hkey
      obtain ⟨c, rfl, hc, hwcc⟩ := plainElem_int_inv Try.underlying76 hv
      obtain rfl : c = (s : Int) := by
        simp only [Prod.mk.injEq] at hc
        exact congrArg valI (hc.1.symm.trans hat)
      have hkrs := Go.WideMaps.keyOf_string_mk Try.underlying53 hrs
      have cc2 : wc.cell? ⟨b, 2, none⟩ = some (.map (some mc)) := hcol.row.cell 2 (by omega)
      cases hh : has S.conns (kid id)
      · rw [show has S.conns (Lit.int .i64 id) = false from hh] at hl
        obtain ⟨wt, hwt⟩ : ∃ wt, wc.drew = wt := ⟨_, rfl⟩
        have hct : Col wt b 1 mc mf ml N S := by rw [← hwt]; exact hcol.drew
        have hbt : Below base w wt := by rw [← hwt]; exact hbel.drew
        have et3 : wt.cell? ⟨eb, 3, none⟩ = some (.string rs) := by rw [← hwt]; exact e3
        obtain ⟨cn, hcn1, hcn2, hatc⟩ := hb.cl rs
        obtain ⟨c2, hlk, hat2, hwc2⟩ := hct.ol.drew.lookup_int law53 Try.underlying45 Try.underlying2 (zero2 _) hkrs
        obtain rfl : cn = c2 := (congrArg valI (hatc.symm.trans hat2) : _)
        obtain ⟨wb, hu, hob, hgb⟩ := hct.ol.drew.update law53 Try.underlying45 (by unfold maxLen; omega) hkrs (plainElem_int (H := Unit) Try.underlying2 (a := cn + 1) (by
          simp only [Lit.wf, Bool.and_eq_true, decide_eq_true_eq]
          exact ⟨Int.le_trans (by decide) (by omega : (0 : Int) ≤ cn + 1), Int.le_trans (by omega : cn + 1 ≤ 100000) (by decide)⟩))
        have hcz := hct.drew.turnL (Nat.le_succ N) hob hgb
        have hbz : Below base w wb := Below.grown (Below.drew hbt) hgb (Nat.le_trans hbw hbt.size) (fun k hk => by obtain rfl := Option.some.inj hk; exact m3)
        have ct9 : wt.cell? ⟨b, 9, none⟩ = some (.map (some ml)) := hct.row.cell 9 (by omega)
        have hSS : Hid ({ S with closed := S.closed.put (krs rs) (n64 (cn + 1)) } = stTally (stDrop S id) rs) := hide (by
          unfold stDrop
          rw [hh]
          unfold stTally
          simp only [Bool.false_eq_true, if_false]
          rw [hatc]
          rfl)
        have HWT := hide hwt
        have HCZ := hide hcz
        have HBZ := hide hbz
        clear hwt hct hob hgb hcz hbz hcol hbel hb hat hat2 hatc hc hv hwcc hbt
        go_wp2_with fail
        go_region
        rw [unhide HWT]
        go_wp2_with fail
        go_region
        go_wp2_with fail
        exact door_col (unhide HCZ) ((unhide hSS).trans (by unfold obs; rw [if_neg (show ¬ (ty.toList == tCreated) = true from by rw [show (ty.toList == tCreated) = false from q1]; simp), if_neg (show ¬ (ty.toList == tReady) = true from by rw [show (ty.toList == tReady) = false from q2]; simp), if_neg (show ¬ (ty.toList == tIn) = true from by rw [show (ty.toList == tIn) = false from q3]; simp), if_neg (show ¬ (ty.toList == tOut) = true from by rw [show (ty.toList == tOut) = false from q4]; simp), if_pos (show (ty.toList == tClosed) = true from q5)])) m1 m2 m3 hbase (unhide HBZ)
      · rw [show has S.conns (Lit.int .i64 id) = true from hh] at hl
        have g1 := hcol.row.cell (3 + s) (by omega)
        rw [cells_ga _ _ _ _ _ s hs] at g1
        have g2 := hcol.row.free (3 + s)
        have hga := hb.ga s
        obtain ⟨w2, hw2⟩ : ∃ w2, (wc.setCell ⟨b, 3 + s, none⟩ (.int .i64 (S.ga s - 1))).drew.drew = w2 := ⟨_, rfl⟩
        have hc2 : Col w2 b 1 mc mf ml N { S with ga := bump S.ga s (-1) } := by
          rw [← hw2]
          refine Col.drew (Col.drew (hcol.store (lk' := 1) (S' := { S with ga := bump S.ga s (-1) }) (3 + s) (.int .i64 (S.ga s - 1)) rfl rfl rfl (fun k hk => ?_)))
          rw [show S.ga s - 1 = S.ga s + -1 by omega]
          exact cells_bump 1 S _ _ _ s hs (-1) k
        have c22 : w2.cell? ⟨b, 2, none⟩ = some (.map (some mc)) := hc2.row.cell 2 (by omega)
        have hblk : w2.heap[eb]? = wc.heap[eb]? := by rw [← hw2]; exact Below.heap_setCell _ _ _ _ (fun e => hbe e.symm)
        have e22 : w2.cell? ⟨eb, 2, none⟩ = some (.int .i64 id) := (World.cell?_of_block (w := wc) hblk).trans e2
        obtain ⟨wt, hdel, hod, htd⟩ := hc2.oc.drew.drop law2 Try.underlying43 hkey 0
        have hgd := htd.grown
        have hct : Col wt b 1 mc mf ml N { S with ga := bump S.ga s (-1), conns := S.conns.del (kid id) } := hc2.drew.turnC (Nat.le_refl N) hod hgd
        have hb2 : Below base w w2 := by rw [← hw2]; exact (hbel.setCell hbase _).drew.drew
        have hbt : Below base w wt := Below.grown hb2.drew hgd (Nat.le_trans hbw hb2.size) (fun k hk => by obtain rfl := Option.some.inj hk; exact m1)
        have et3 : wt.cell? ⟨eb, 3, none⟩ = some (.string rs) := (World.cell?_of_block (w := wc) ((hgd.block eb (by show eb < w2.heap.size; rw [← hw2]; show eb < (wc.setCell _ _).heap.size; simp [World.setCell]; exact World.block_lt_of_cell? wc _ e3) (fun e => EBC (Option.some.inj e))).trans hblk)).trans e3
        obtain ⟨cn, hcn1, hcn2, hatc⟩ := hb.cl rs
        obtain ⟨c2, hlk, hat2, hwc2⟩ := hct.ol.drew.lookup_int law53 Try.underlying45 Try.underlying2 (zero2 _) hkrs
        obtain rfl : cn = c2 := (congrArg valI (hatc.symm.trans hat2) : _)
        obtain ⟨wb, hu, hob, hgb⟩ := hct.ol.drew.update law53 Try.underlying45 (by unfold maxLen; omega) hkrs (plainElem_int (H := Unit) Try.underlying2 (a := cn + 1) (by
          simp only [Lit.wf, Bool.and_eq_true, decide_eq_true_eq]
          exact ⟨Int.le_trans (by decide) (by omega : (0 : Int) ≤ cn + 1), Int.le_trans (by omega : cn + 1 ≤ 100000) (by decide)⟩))
        have hcz := hct.drew.turnL (Nat.le_succ N) hob hgb
        have hbz : Below base w wb := Below.grown (Below.drew hbt) hgb (Nat.le_trans hbw hbt.size) (fun k hk => by obtain rfl := Option.some.inj hk; exact m3)
        have ct9 : wt.cell? ⟨b, 9, none⟩ = some (.map (some ml)) := hct.row.cell 9 (by omega)
        have hSS : Hid ({ S with ga := bump S.ga s (-1), conns := S.conns.del (kid id), closed := S.closed.put (krs rs) (n64 (cn + 1)) } = stTally (stDrop S id) rs) := hide (by
          unfold stDrop
          rw [hh, hat]
          unfold stTally
          simp only [if_true]
          rw [hatc]
          rfl)
        have hsI : (s : Int) < 3 := by omega
        have HW2' := hide hw2
        have HDEL := hide hdel
        clear hdel
        have HCZ := hide hcz
        have HBZ := hide hbz
        clear hw2 hc2 hct hob hgb hcz hbz hcol hbel hb hat hat2 hatc hc hv hwcc hbt hb2 hod htd hgd hblk
        go_wp2_with fail
        go_region
        go_wp2_with fail
        go_region
        rw [unhide HW2']
        go_wp2_with fail
        have hdel := unhide HDEL
        as_aux_lemma =>
          go_region
          go_wp2_with fail
          as_aux_lemma =>
            go_region
            go_wp2_with fail
            exact door_col (unhide HCZ) ((unhide hSS).trans (by unfold obs; rw [if_neg (show ¬ (ty.toList == tCreated) = true from by rw [show (ty.toList == tCreated) = false from q1]; simp), if_neg (show ¬ (ty.toList == tReady) = true from by rw [show (ty.toList == tReady) = false from q2]; simp), if_neg (show ¬ (ty.toList == tIn) = true from by rw [show (ty.toList == tIn) = false from q3]; simp), if_neg (show ¬ (ty.toList == tOut) = true from by rw [show (ty.toList == tOut) = false from q4]; simp), if_pos (show (ty.toList == tClosed) = true from q5)])) m1 m2 m3 hbase (unhide HBZ)
    cases q6 : (ty.toList == [67, 111, 110, 110, 101, 99, 116, 105, 111, 110, 67, 104, 101, 99, 107, 79, 117, 116, 83, 116, 97, 114, 116, 101, 100])
    rotate_left
    · have hbd := hb.waiting
      have hcc : wc.cell? ⟨b, 6, none⟩ = some (.int .i64 S.waiting) := hcol.row.cell 6 (by omega)
      have hff := hcol.row.free 6
      have hcz : Col (wc.setCell ⟨b, 6, none⟩ (.int .i64 (S.waiting + 1))) b 1 mc mf ml (N + 1) (stWait S 1) :=
        (hcol.mono (Nat.le_succ N)).store 6 _ rfl rfl rfl (fun k hk => by
          unfold upd cellsOf stWait
          by_cases e : k = 6
          · subst e; simp
          · rw [if_neg e]; simp only [e, if_false])
      have HCZ := hide hcz
      have HBZ := hide (hbel.setCell hbase (p := ⟨b, 6, none⟩) (.int .i64 (S.waiting + 1)))
      clear hcz hcol hbel hb
      go_wp2_with fail
      exact door_col (unhide HCZ) (by unfold obs; rw [if_neg (show ¬ (ty.toList == tCreated) = true from by rw [show (ty.toList == tCreated) = false from q1]; simp), if_neg (show ¬ (ty.toList == tReady) = true from by rw [show (ty.toList == tReady) = false from q2]; simp), if_neg (show ¬ (ty.toList == tIn) = true from by rw [show (ty.toList == tIn) = false from q3]; simp), if_neg (show ¬ (ty.toList == tOut) = true from by rw [show (ty.toList == tOut) = false from q4]; simp), if_neg (show ¬ (ty.toList == tClosed) = true from by rw [show (ty.toList == tClosed) = false from q5]; simp), if_pos (show (ty.toList == tStarted) = true from q6)]) m1 m2 m3 hbase (unhide HBZ)
    cases q7 : (ty.toList == [67, 111, 110, 110, 101, 99, 116, 105, 111, 110, 67, 104, 101, 99, 107, 79, 117, 116, 70, 97, 105, 108, 101, 100])
    rotate_left
    · have hww := hb.waiting
      have hc6 : wc.cell? ⟨b, 6, none⟩ = some (.int .i64 S.waiting) := hcol.row.cell 6 (by omega)
      have hf6 := hcol.row.free 6
      have hkrs := Go.WideMaps.keyOf_string_mk Try.underlying53 hrs
      obtain ⟨cn, hcn1, hcn2, hat⟩ := hb.fa rs
      obtain ⟨wa, hwa⟩ : ∃ wa, wc.setCell ⟨b, 6, none⟩ (.int .i64 (S.waiting - 1)) = wa := ⟨_, rfl⟩
      have hca : Col wa b 1 mc mf ml N (stWait S (-1)) := by
        rw [← hwa]
        exact hcol.store 6 _ rfl rfl rfl (fun k hk => by
          unfold upd cellsOf stWait
          by_cases e : k = 6
          · subst e; simp [Int.sub_eq_add_neg]
          · rw [if_neg e]; simp only [e, if_false])
      have ea3 : wa.cell? ⟨eb, 3, none⟩ = some (.string rs) := by rw [← hwa, World.cell?_setCell_other _ _ _ _ (by simp)]; exact e3
      have ca8 : wa.cell? ⟨b, 8, none⟩ = some (.map (some mf)) := hca.row.cell 8 (by omega)
      obtain ⟨c2, hlk, hat2, hwc2⟩ := hca.of.drew.lookup_int law53 Try.underlying45 Try.underlying2 (zero2 _) hkrs
      obtain rfl : cn = c2 := (congrArg valI (hat.symm.trans hat2) : _)
      obtain ⟨wb, hu, hob, hgb⟩ := hca.of.drew.update law53 Try.underlying45 (by unfold maxLen; omega) hkrs (plainElem_int (H := Unit) Try.underlying2 (a := cn + 1) (by
        simp only [Lit.wf, Bool.and_eq_true, decide_eq_true_eq]
        exact ⟨Int.le_trans (by decide) (by omega : (0 : Int) ≤ cn + 1), Int.le_trans (by omega : cn + 1 ≤ 100000) (by decide)⟩))
      have hcz := hca.drew.turnF (Nat.le_succ N) hob hgb
      have hbz : Below base w wb := by
        rw [← hwa] at hgb
        exact Below.grown (Below.drew (hbel.setCell hbase _)) hgb (Nat.le_trans hbwc (by simp [World.setCell, World.drew])) (fun k hk => by obtain rfl := Option.some.inj hk; exact m2)
      have hSS : Hid ({ stWait S (-1) with failed := (stWait S (-1)).failed.put (krs rs) (n64 (cn + 1)) } = stFail (stWait S (-1)) rs) := hide (by
        unfold stFail
        rw [show (stWait S (-1)).failed.atKey (krs rs) (n64 0) = n64 cn from hat]
        rfl)
      have HWA := hide hwa
      have HCZ := hide hcz
      have HBZ := hide hbz
      clear hwa hca hob hgb hcz hbz hcol hbel hb hat hat2
      go_wp2_with fail
      rw [unhide HWA]
      go_region
      go_wp2_with fail
      exact door_col (unhide HCZ) ((unhide hSS).trans (by unfold obs; rw [if_neg (show ¬ (ty.toList == tCreated) = true from by rw [show (ty.toList == tCreated) = false from q1]; simp), if_neg (show ¬ (ty.toList == tReady) = true from by rw [show (ty.toList == tReady) = false from q2]; simp), if_neg (show ¬ (ty.toList == tIn) = true from by rw [show (ty.toList == tIn) = false from q3]; simp), if_neg (show ¬ (ty.toList == tOut) = true from by rw [show (ty.toList == tOut) = false from q4]; simp), if_neg (show ¬ (ty.toList == tClosed) = true from by rw [show (ty.toList == tClosed) = false from q5]; simp), if_neg (show ¬ (ty.toList == tStarted) = true from by rw [show (ty.toList == tStarted) = false from q6]; simp), if_pos (show (ty.toList == tFailed) = true from q7)])) m1 m2 m3 hbase (unhide HBZ)
    cases q8 : (ty.toList == [67, 111, 110, 110, 101, 99, 116, 105, 111, 110, 72, 101, 108, 100, 84, 111, 111, 76, 111, 110, 103])
    rotate_left
    · have hbd := hb.held
      have hcc : wc.cell? ⟨b, 10, none⟩ = some (.int .i64 S.held) := hcol.row.cell 10 (by omega)
      have hff := hcol.row.free 10
      have hcz : Col (wc.setCell ⟨b, 10, none⟩ (.int .i64 (S.held + 1))) b 1 mc mf ml (N + 1) { S with held := S.held + 1 } :=
        (hcol.mono (Nat.le_succ N)).store 10 _ rfl rfl rfl (fun k hk => by
          unfold upd cellsOf
          by_cases e : k = 10
          · subst e; simp
          · rw [if_neg e]; simp only [e, if_false])
      have HCZ := hide hcz
      have HBZ := hide (hbel.setCell hbase (p := ⟨b, 10, none⟩) (.int .i64 (S.held + 1)))
      clear hcz hcol hbel hb
      go_wp2_with fail
      exact door_col (unhide HCZ) (by unfold obs; rw [if_neg (show ¬ (ty.toList == tCreated) = true from by rw [show (ty.toList == tCreated) = false from q1]; simp), if_neg (show ¬ (ty.toList == tReady) = true from by rw [show (ty.toList == tReady) = false from q2]; simp), if_neg (show ¬ (ty.toList == tIn) = true from by rw [show (ty.toList == tIn) = false from q3]; simp), if_neg (show ¬ (ty.toList == tOut) = true from by rw [show (ty.toList == tOut) = false from q4]; simp), if_neg (show ¬ (ty.toList == tClosed) = true from by rw [show (ty.toList == tClosed) = false from q5]; simp), if_neg (show ¬ (ty.toList == tStarted) = true from by rw [show (ty.toList == tStarted) = false from q6]; simp), if_neg (show ¬ (ty.toList == tFailed) = true from by rw [show (ty.toList == tFailed) = false from q7]; simp), if_pos (show (ty.toList == tHeld) = true from q8)]) m1 m2 m3 hbase (unhide HBZ)
    have HCZ := hide (hcol.mono (Nat.le_succ N))
    have HBZ := hide hbel
    clear hcol hbel hb
    go_wp2_with fail
    exact door_col (unhide HCZ) (by unfold obs; rw [if_neg (show ¬ (ty.toList == tCreated) = true from by rw [show (ty.toList == tCreated) = false from q1]; simp), if_neg (show ¬ (ty.toList == tReady) = true from by rw [show (ty.toList == tReady) = false from q2]; simp), if_neg (show ¬ (ty.toList == tIn) = true from by rw [show (ty.toList == tIn) = false from q3]; simp), if_neg (show ¬ (ty.toList == tOut) = true from by rw [show (ty.toList == tOut) = false from q4]; simp), if_neg (show ¬ (ty.toList == tClosed) = true from by rw [show (ty.toList == tClosed) = false from q5]; simp), if_neg (show ¬ (ty.toList == tStarted) = true from by rw [show (ty.toList == tStarted) = false from q6]; simp), if_neg (show ¬ (ty.toList == tFailed) = true from by rw [show (ty.toList == tFailed) = false from q7]; simp), if_neg (show ¬ (ty.toList == tHeld) = true from by rw [show (ty.toList == tHeld) = false from q8]; simp)]) m1 m2 m3 hbase (unhide HBZ)
end Go.Proofs.Qxb6615473a
