import Derived.Test.Qxb6615473aHist
import Derived.Test.Qxb6615473aSums
namespace Go.Proofs.Qxb6615473a
open Go.RowKit Go.Maps
set_option linter.unusedVariables false

/-- The collector, its maps made or not yet. -/
def Cv (base : Nat) (w : World) (b N : Nat) (S : St) : Prop := Cb base w b 0 N S ∨ Cz w b S
theorem Cv.kept {base b N : Nat} {w w' : World} {S : St} (h : Cv base w b N S) (hf : Frm (fun k => w.heap.size ≤ k) w w') : Cv base w' b N S := by
  rcases h with ⟨mc, mf, ml, a1, a2, a3, hc⟩ | ⟨e, hz⟩
  · exact Or.inl ⟨mc, mf, ml, a1, a2, a3, hc.kept hf⟩
  · exact Or.inr ⟨e, hz.same (hf.block b hz.lt (by have := hz.lt; omega))⟩
theorem Cv.row {base b N : Nat} {w : World} {S : St} (h : Cv base w b N S) : ∃ mc mf ml : Value, RowAt w b 50 1902 (cellsOf 0 S mc mf ml) := by
  rcases h with ⟨mc, mf, ml, a1, a2, a3, hc⟩ | ⟨e, hz⟩
  · exact ⟨_, _, _, hc.row⟩
  · exact ⟨_, _, _, by rw [e]; exact hz⟩
theorem Cv.drewN {base b N : Nat} {w : World} {S : St} (h : Cv base w b N S) (q : Nat) : Cv base (w.drewN q) b N S := h.kept ⟨rfl, rfl, rfl, Nat.le_refl _, fun _ _ _ => rfl⟩
/-- What each reader of the collector meets. -/
theorem Cv.conn {base b N n : Nat} {w : World} {S : St} (h : Cv base w b N S) (hb : Bd n S) (id : Int) (hid : (Lit.int .i64 id).wf = true) :
    ∃ (r : Option Nat) (s : Nat), w.cell? ⟨b, 2, none⟩ = some (.map r) ∧ s < 3 ∧ (Instr.lookup 43 (.map r) (.int .i64 id) true).run Try.prog w = .ok (.tuple #[.int .u8 s, .bool (has S.conns (kid id))]) w ∧ S.conns.atKey (kid id) (u8 0) = u8 s := by
  have hkey := keyOf_int_mk Try.underlying2 hid
  rcases h with ⟨mc, mf, ml, a1, a2, a3, hc⟩ | ⟨e, hz⟩
  · obtain ⟨s, hs, hat⟩ := hb.st id
    obtain ⟨v, ps, hl, hv⟩ := hc.oc.look_ok law2 Try.underlying43 (zero76 _) (plainElem_int (H := Unit) Try.underlying76 (by decide)) hkey
    obtain ⟨c, rfl, hcc, hwcc⟩ := plainElem_int_inv Try.underlying76 hv
    obtain rfl : c = (s : Int) := by
      simp only [Prod.mk.injEq] at hcc
      exact congrArg valI (hcc.1.symm.trans hat)
    exact ⟨some mc, s, hc.row.cell 2 (by omega), hs, hl, hat⟩
  · subst e
    exact ⟨none, 0, hz.cell 2 (by omega), by omega, look_nil true law2 Try.underlying43 (zero76 _) hkey, rfl⟩
theorem Cv.connLen {base b N : Nat} {w : World} {S : St} (h : Cv base w b N S) : ∃ r : Option Nat, w.cell? ⟨b, 2, none⟩ = some (.map r) ∧ ∀ ty, (Builtin.len_ #[43] ty #[.map r]).run Try.prog w = .ok (.int .i64 (size S.conns)) w := by
  rcases h with ⟨mc, mf, ml, a1, a2, a3, hc⟩ | ⟨e, hz⟩
  · exact ⟨some mc, hc.row.cell 2 (by omega), fun ty => hc.oc.len Try.underlying43 ty⟩
  · subst e
    exact ⟨none, hz.cell 2 (by omega), fun ty => len_nil Try.underlying43 ty⟩
theorem Cv.closed {base b N : Nat} {w : World} {S : St} (h : Cv base w b N S) (rs : ByteArray) (hrs : rs.size ≤ maxLen) (c : Int) (hat : S.closed.atKey (krs rs) (n64 0) = n64 c) :
    ∃ r : Option Nat, w.cell? ⟨b, 9, none⟩ = some (.map r) ∧ (Instr.lookup 45 (.map r) (.string rs) false).run Try.prog w = .ok (.int .i64 c) w := by
  have hkrs := Go.WideMaps.keyOf_string_mk Try.underlying53 hrs
  rcases h with ⟨mc, mf, ml, a1, a2, a3, hc⟩ | ⟨e, hz⟩
  · obtain ⟨c2, hlk, hat2, hwc2⟩ := hc.ol.lookup_int law53 Try.underlying45 Try.underlying2 (zero2 _) hkrs
    obtain rfl : c = c2 := (congrArg valI (hat.symm.trans hat2) : _)
    exact ⟨some ml, hc.row.cell 9 (by omega), hlk⟩
  · subst e
    obtain rfl : c = 0 := congrArg valI hat.symm
    exact ⟨none, hz.cell 9 (by omega), look_nil false law53 Try.underlying45 (zero2 _) hkrs⟩
theorem Cv.failed {base b N : Nat} {w : World} {S : St} (h : Cv base w b N S) (rs : ByteArray) (hrs : rs.size ≤ maxLen) (c : Int) (hat : S.failed.atKey (krs rs) (n64 0) = n64 c) :
    ∃ r : Option Nat, w.cell? ⟨b, 8, none⟩ = some (.map r) ∧ (Instr.lookup 45 (.map r) (.string rs) false).run Try.prog w = .ok (.int .i64 c) w := by
  have hkrs := Go.WideMaps.keyOf_string_mk Try.underlying53 hrs
  rcases h with ⟨mc, mf, ml, a1, a2, a3, hc⟩ | ⟨e, hz⟩
  · obtain ⟨c2, hlk, hat2, hwc2⟩ := hc.of.lookup_int law53 Try.underlying45 Try.underlying2 (zero2 _) hkrs
    obtain rfl : c = c2 := (congrArg valI (hat.symm.trans hat2) : _)
    exact ⟨some mf, hc.row.cell 8 (by omega), hlk⟩
  · subst e
    obtain rfl : c = 0 := congrArg valI hat.symm
    exact ⟨none, hz.cell 8 (by omega), look_nil false law53 Try.underlying45 (zero2 _) hkrs⟩
theorem Cv.closedLen {base b N : Nat} {w : World} {S : St} (h : Cv base w b N S) : ∃ r : Option Nat, w.cell? ⟨b, 9, none⟩ = some (.map r) ∧ ∀ ty, (Builtin.len_ #[45] ty #[.map r]).run Try.prog w = .ok (.int .i64 (size S.closed)) w := by
  rcases h with ⟨mc, mf, ml, a1, a2, a3, hc⟩ | ⟨e, hz⟩
  · exact ⟨some ml, hc.row.cell 9 (by omega), fun ty => hc.ol.len Try.underlying45 ty⟩
  · subst e
    exact ⟨none, hz.cell 9 (by omega), fun ty => len_nil Try.underlying45 ty⟩
theorem Cv.failedLen {base b N : Nat} {w : World} {S : St} (h : Cv base w b N S) : ∃ r : Option Nat, w.cell? ⟨b, 8, none⟩ = some (.map r) ∧ ∀ ty, (Builtin.len_ #[45] ty #[.map r]).run Try.prog w = .ok (.int .i64 (size S.failed)) w := by
  rcases h with ⟨mc, mf, ml, a1, a2, a3, hc⟩ | ⟨e, hz⟩
  · exact ⟨some mf, hc.row.cell 8 (by omega), fun ty => hc.of.len Try.underlying45 ty⟩
  · subst e
    exact ⟨none, hz.cell 8 (by omega), fun ty => len_nil Try.underlying45 ty⟩

/-! ### the readers -/
theorem wpList_len_run {P : Program} {ops : Array Oper} {o : Oper} {rest : List Oper} {a : Act} {w : World} {Q : Exit → Act → World → Prop} (hg : o.guard = none) (m : Operand) (t : TypeId) (hop : o.op = Op.call { callee := Callee.builtin Builtin.len, args := #[m], argTypes := #[t] })
    (v : Value) (z : Int) (hm : a.eval m = v) (hrun : ∀ ty, (Builtin.len_ #[t] ty #[v]).run P w = .ok (.int .i64 z) w) (hK : wpList P ops Q rest (a.put o.dst (.int .i64 z)) w) :
    wpList P ops Q (o :: rest) a w := by
  refine wpList_plain hg fun K' hK' => ?_
  unfold Oper.wp
  simp [execOp, hop, resolve, invoke, builtin, hm, hrun o.type, Result.andThen]
  exact hK' _ _ hK
theorem created_get (b : Nat) (c : Int) (w : World) (h : w.cell? ⟨b, 7, none⟩ = some (.int .i64 c)) : Calls Try.prog 17 #[.pointer (some ⟨b, 0, none⟩)] w fun e w' => e = .returned (.int .i64 c) ∧ w = w' := by
  go_enter Try.func17, Try.ntmps17
  go_wp2_with fail
  go_ret
  exact ⟨rfl, rfl⟩
theorem held_get (b : Nat) (c : Int) (w : World) (h : w.cell? ⟨b, 10, none⟩ = some (.int .i64 c)) : Calls Try.prog 18 #[.pointer (some ⟨b, 0, none⟩)] w fun e w' => e = .returned (.int .i64 c) ∧ w = w' := by
  go_enter Try.func18, Try.ntmps18
  go_wp2_with fail
  go_ret
  exact ⟨rfl, rfl⟩
theorem waiting_get (b : Nat) (c : Int) (w : World) (h : w.cell? ⟨b, 6, none⟩ = some (.int .i64 c)) : Calls Try.prog 19 #[.pointer (some ⟨b, 0, none⟩)] w fun e w' => e = .returned (.int .i64 c) ∧ w = w' := by
  go_enter Try.func19, Try.ntmps19
  go_wp2_with fail
  go_ret
  exact ⟨rfl, rfl⟩
theorem gauge_get (b s : Nat) (c : Int) (w : World) (hs : s < 3) (h : w.cell? ⟨b, 3 + s, none⟩ = some (.int .i64 c)) : Calls Try.prog 23 #[.pointer (some ⟨b, 0, none⟩), .int .i64 (s : Int)] w fun e w' => e = .returned (.int .i64 c) ∧ w = w' := by
  have hs' : (s : Int) < 3 := by omega
  go_enter Try.func23, Try.ntmps23
  go_wp2_with fail
  go_ret
  exact ⟨rfl, rfl⟩
theorem conn_get (b : Nat) (r : Option Nat) (id : Int) (s : Nat) (h : Bool) (w : World) (hc : w.cell? ⟨b, 2, none⟩ = some (.map r)) (hl : (Instr.lookup 43 (.map r) (.int .i64 id) true).run Try.prog w = .ok (.tuple #[.int .u8 s, .bool h]) w) :
    Calls Try.prog 21 #[.pointer (some ⟨b, 0, none⟩), .int .i64 id] w fun e w' => e = .returned (.tuple #[.int .u8 s, .bool h]) ∧ w = w' := by
  go_enter Try.func21, Try.ntmps21
  go_wp2_with fail
  go_ret2
  exact ⟨rfl, rfl⟩
theorem closed_get (b : Nat) (r : Option Nat) (rs : ByteArray) (c : Int) (w : World) (hc : w.cell? ⟨b, 9, none⟩ = some (.map r)) (hl : (Instr.lookup 45 (.map r) (.string rs) false).run Try.prog w = .ok (.int .i64 c) w) :
    Calls Try.prog 35 #[.pointer (some ⟨b, 0, none⟩), .string rs] w fun e w' => e = .returned (.int .i64 c) ∧ w = w' := by
  go_enter Try.func35, Try.ntmps35
  go_wp2_with fail
  go_ret
  exact ⟨rfl, rfl⟩
theorem failed_get (b : Nat) (r : Option Nat) (rs : ByteArray) (c : Int) (w : World) (hc : w.cell? ⟨b, 8, none⟩ = some (.map r)) (hl : (Instr.lookup 45 (.map r) (.string rs) false).run Try.prog w = .ok (.int .i64 c) w) :
    Calls Try.prog 36 #[.pointer (some ⟨b, 0, none⟩), .string rs] w fun e w' => e = .returned (.int .i64 c) ∧ w = w' := by
  go_enter Try.func36, Try.ntmps36
  go_wp2_with fail
  go_ret
  exact ⟨rfl, rfl⟩
theorem conns_len (b : Nat) (r : Option Nat) (z : Int) (w : World) (hc : w.cell? ⟨b, 2, none⟩ = some (.map r)) (hl : ∀ ty, (Builtin.len_ #[43] ty #[.map r]).run Try.prog w = .ok (.int .i64 z) w) :
    Calls Try.prog 22 #[.pointer (some ⟨b, 0, none⟩)] w fun e w' => e = .returned (.int .i64 z) ∧ w = w' := by
  have HL := hide hl
  clear hl
  go_enter Try.func22, Try.ntmps22
  go_wp2_with (at_len; refine wpList_len_run rfl (.tmp 6) 43 rfl (.map r) z rfl (unhide HL) ?_)
  go_ret
  exact ⟨rfl, rfl⟩
theorem closed_len (b : Nat) (r : Option Nat) (z : Int) (w : World) (hc : w.cell? ⟨b, 9, none⟩ = some (.map r)) (hl : ∀ ty, (Builtin.len_ #[45] ty #[.map r]).run Try.prog w = .ok (.int .i64 z) w) :
    Calls Try.prog 37 #[.pointer (some ⟨b, 0, none⟩)] w fun e w' => e = .returned (.int .i64 z) ∧ w = w' := by
  have HL := hide hl
  clear hl
  go_enter Try.func37, Try.ntmps37
  go_wp2_with (at_len; refine wpList_len_run rfl (.tmp 6) 45 rfl (.map r) z rfl (unhide HL) ?_)
  go_ret
  exact ⟨rfl, rfl⟩
theorem failed_len (b : Nat) (r : Option Nat) (z : Int) (w : World) (hc : w.cell? ⟨b, 8, none⟩ = some (.map r)) (hl : ∀ ty, (Builtin.len_ #[45] ty #[.map r]).run Try.prog w = .ok (.int .i64 z) w) :
    Calls Try.prog 38 #[.pointer (some ⟨b, 0, none⟩)] w fun e w' => e = .returned (.int .i64 z) ∧ w = w' := by
  have HL := hide hl
  clear hl
  go_enter Try.func38, Try.ntmps38
  go_wp2_with (at_len; refine wpList_len_run rfl (.tmp 6) 45 rfl (.map r) z rfl (unhide HL) ?_)
  go_ret
  exact ⟨rfl, rfl⟩
end Go.Proofs.Qxb6615473a
