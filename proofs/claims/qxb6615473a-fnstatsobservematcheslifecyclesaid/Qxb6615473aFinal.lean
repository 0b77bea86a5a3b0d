import Derived.Test.Qxb6615473aReads
namespace Go.Proofs.Qxb6615473a
open Go.RowKit Go.Maps
set_option linter.unusedVariables false

/-- What zzFinalState tells. -/
def told (o : Option Nat) : Value := match o with
  | none => .tuple #[.int .u8 0, .bool false]
  | some s => .tuple #[.int .u8 (s : Int), .bool true]
/-- No later event creates the number of event i anew. -/
def Once (E : Nat → Ev) (N i : Nat) : Prop := ∀ j, i < j → j < N → (E j).id = (E i).id → isT tCreated (E j) = false
theorem fin_none (E : Nat → Ev) (N i : Nat) (h : Once E N i) (j : Nat) (hj : i < j) (e : fin E i j = none) : ∀ m, j ≤ m → m ≤ N → fin E i m = none := by
  intro m hm
  induction m with
  | zero => intro _; omega
  | succ m ih =>
    intro hN
    by_cases c : j = m + 1
    · rw [← c]; exact e
    · rw [fin_succ E i m (by omega), ih (by omega) (by omega)]
      unfold nxt
      split
      · rename_i hid
        rw [h m (by omega) (by omega) hid]
        rfl
      · rfl
theorem nxt_same (e : Ev) (id : Int) (s : Nat) (h : e.id = id) (hc : isT tCreated e = false) : nxt e id (some s) = if isT tClosed e then none else if isT tReady e || isT tIn e then some 1 else if isT tOut e then some 2 else some s := by
  unfold nxt
  rw [if_pos h, hc]
  rfl

set_option maxHeartbeats 2000000 in
theorem final_any (ao : Option Addr) (N cap i : Nat) (E : Nat → Ev) (w : World) (h : EvAll w ao N E) (hN : N ≤ 4096) (hi : i < N) (ho : Once E N i) :
    Calls Try.prog 20 #[.slice ao N cap, .int .i64 (i : Int)] w fun e w' => e = .returned (told (fin E i N)) ∧ w = w' := by
  obtain ⟨_, hr⟩ := h
  obtain ⟨b, off, rfl, hbb, he⟩ := hr i hi
  have HR := hide hr
  have HO := hide ho
  clear hr ho
  have d1 := he.c1
  clear he
  have hi2 : (i : Int) < (N : Int) := by omega
  obtain ⟨idI, hidI⟩ : ∃ x, (E i).id = x := ⟨_, rfl⟩
  rw [hidI] at d1
  have HII := hide hidI
  clear hidI
  go_enter Try.func20, Try.ntmps20
  go_wp2_with fail
  go_loop [7, 8] (fun x y => ∃ j s : Nat, i < j ∧ j ≤ N ∧ s < 3 ∧ x = .int .u8 (s : Int) ∧ y = .int .i64 (j : Int) ∧ Hid (fin E i j = some s)) (fun _ y => N - (intOf y).toNat)
  case atStart => exact ⟨i + 1, 0, by omega, by omega, by omega, rfl, by go_num, hide (fin_new E i)⟩
  case round =>
    obtain ⟨j, s, hij, hj, hs, rfl, rfl, hf⟩ := hrel
    by_cases hlt : j < N
    · have hlt2 : (j : Int) < (N : Int) := by omega
      obtain ⟨b', off', hao, hbb', he⟩ := unhide HR j hlt
      simp only [Option.some.injEq, Addr.mk.injEq, and_true] at hao
      obtain ⟨rfl, rfl⟩ := hao
      obtain ⟨c0, c1, c2, c3, wi, wd, _, _⟩ := he
      have hsucc := hide (fin_succ E i j hij)
      by_cases hid : (E j).id = idI
      · rw [hid] at c1
        have hidE : (E j).id = (E i).id := by rw [hid]; exact (unhide HII).symm
        have hcr := unhide HO j hij hlt hidE
        have hn := hide (nxt_same (E j) (E i).id s hidE hcr)
        clear hid hidE hcr wi
        cases q1 : ((E j).ty.toList == [67, 111, 110, 110, 101, 99, 116, 105, 111, 110, 67, 108, 111, 115, 101, 100])
        · have q1' : Hid (isT tClosed (E j) = false) := hide q1
          cases q2 : ((E j).ty.toList == [67, 111, 110, 110, 101, 99, 116, 105, 111, 110, 82, 101, 97, 100, 121])
          · have q2' : Hid (isT tReady (E j) = false) := hide q2
            cases q3 : ((E j).ty.toList == [67, 111, 110, 110, 101, 99, 116, 105, 111, 110, 67, 104, 101, 99, 107, 101, 100, 73, 110])
            · have q3' : Hid (isT tIn (E j) = false) := hide q3
              cases q4 : ((E j).ty.toList == [67, 111, 110, 110, 101, 99, 116, 105, 111, 110, 67, 104, 101, 99, 107, 101, 100, 79, 117, 116])
              · have q4' : Hid (isT tOut (E j) = false) := hide q4
                go_wp2_with fail
                go_round
                case rel => exact ⟨j + 1, s, by omega, by omega, hs, rfl, by go_num, hide (by rw [unhide hsucc, unhide hf, unhide hn, unhide q1', unhide q2', unhide q3', unhide q4']; rfl)⟩
                case measure => simp [intOf]; omega
              · have q4' : Hid (isT tOut (E j) = true) := hide q4
                go_wp2_with fail
                go_round
                case rel => exact ⟨j + 1, 2, by omega, by omega, by omega, rfl, by go_num, hide (by rw [unhide hsucc, unhide hf, unhide hn, unhide q1', unhide q2', unhide q3', unhide q4']; rfl)⟩
                case measure => simp [intOf]; omega
            · have q3' : Hid (isT tIn (E j) = true) := hide q3
              have q4 : ((E j).ty.toList == [67, 111, 110, 110, 101, 99, 116, 105, 111, 110, 67, 104, 101, 99, 107, 101, 100, 79, 117, 116]) = false := by rw [isT_eq (unhide q3')]; decide
              go_wp2_with fail
              go_round
              case rel => exact ⟨j + 1, 1, by omega, by omega, by omega, rfl, by go_num, hide (by rw [unhide hsucc, unhide hf, unhide hn, unhide q1', unhide q2', unhide q3']; rfl)⟩
              case measure => simp [intOf]; omega
          · have q2' : Hid (isT tReady (E j) = true) := hide q2
            have q4 : ((E j).ty.toList == [67, 111, 110, 110, 101, 99, 116, 105, 111, 110, 67, 104, 101, 99, 107, 101, 100, 79, 117, 116]) = false := by rw [isT_eq (unhide q2')]; decide
            go_wp2_with fail
            go_round
            case rel => exact ⟨j + 1, 1, by omega, by omega, by omega, rfl, by go_num, hide (by rw [unhide hsucc, unhide hf, unhide hn, unhide q1', unhide q2']; rfl)⟩
            case measure => simp [intOf]; omega
        · have q1' : Hid (isT tClosed (E j) = true) := hide q1
          have hnone : Hid (fin E i N = none) := hide (fin_none E N i (unhide HO) (j + 1) (by omega) (by rw [unhide hsucc, unhide hf, unhide hn, unhide q1']; rfl) N (by omega) (Nat.le_refl _))
          go_wp2_with fail
          go_ret2
          rw [unhide hnone]
          exact ⟨rfl, rfl⟩
      · have hn : Hid (fin E i (j + 1) = some s) := hide (by rw [unhide hsucc, unhide hf, nxt_other]; intro c; exact hid (by rw [c]; exact unhide HII))
        have hid' : ((E j).id == idI) = false := by simpa using hid
        have hid'' : ((E j).id != idI) = true := by simpa using hid
        go_wp2_with fail
        refine ⟨⟨j + 1, s, by omega, by omega, hs, rfl, by go_num, hn⟩, ?_⟩
        simp [intOf]; omega
    · have hge : ¬ (j : Int) < (N : Int) := by omega
      have hfN : Hid (fin E i N = some s) := hide (by rw [← unhide hf]; congr 1; omega)
      go_wp2_with fail
      go_ret2
      rw [unhide hfN]
      exact ⟨rfl, rfl⟩
end Go.Proofs.Qxb6615473a
