import Derived.Test.Qxb6615473aOpen
namespace Go.Proofs.Qxb6615473a
open Go.RowKit Go.Maps
set_option linter.unusedVariables false

/-- The collector's maps are tidy. -/
structure Tid (S : St) : Prop where
  co : Tidy S.conns
  fa : Tidy S.failed
  cl : Tidy S.closed
theorem key_id (id : Int) : WideAt.IsKeyLit (kid id) := trivial
theorem key_rs (r : ByteArray) : WideAt.IsKeyLit (krs r) := trivial
theorem kid_inj {a b : Int} (h : kid a = kid b) : a = b := by unfold kid at h; injection h
theorem krs_inj {a b : ByteArray} (h : krs a = krs b) : a = b := by
  unfold krs at h
  injection h with h
  cases a; cases b
  simp only at h
  rw [Array.toList_inj.1 h]
theorem valI_u8 (x : Int) : valI (u8 x) = x := rfl
theorem valI_n64 (x : Int) : valI (n64 x) = x := rfl

theorem Bd.mono {n m : Nat} {S : St} (h : Bd n S) (hm : n ≤ m) : Bd m S where
  ga i := by have := h.ga i; omega
  waiting := by have := h.waiting; omega
  created := by have := h.created; omega
  held := by have := h.held; omega
  count := by have := h.count; omega
  total := h.total
  mx := h.mx
  bk i := by have := h.bk i; omega
  st := h.st
  fa r := by obtain ⟨c, h1, h2, h3⟩ := h.fa r; exact ⟨c, h1, by omega, h3⟩
  cl r := by obtain ⟨c, h1, h2, h3⟩ := h.cl r; exact ⟨c, h1, by omega, h3⟩

theorem bump_le (f : Nat → Int) (i : Nat) (x : Int) (a b : Int) (k : Nat) (h : a ≤ f k ∧ f k ≤ b) (hx : -1 ≤ x ∧ x ≤ 1) : a - 1 ≤ bump f i x k ∧ bump f i x k ≤ b + 1 := by
  unfold bump; split <;> omega

theorem st_put {n : Nat} {S : St} (h : Bd n S) (ht : Tid S) (id0 : Int) (tg : Nat) (htg : tg < 3) (id : Int) : ∃ s : Nat, s < 3 ∧ (S.conns.put (kid id0) (u8 tg)).atKey (kid id) (u8 0) = u8 s := by
  by_cases e : kid id = kid id0
  · rw [e]; exact ⟨tg, htg, atKey_put_same ht.co.isMap (key_id _) _ _⟩
  · rw [atKey_put_other e]; exact h.st id
theorem bd_move {n : Nat} {S : St} (h : Bd n S) (ht : Tid S) (id : Int) (tg : Nat) (htg : tg < 3) : Bd (n + 1) (stMove S id tg) ∧ Tid (stMove S id tg) := by
  unfold stMove
  by_cases e : has S.conns (kid id) = true
  · rw [if_pos e]
    have hm := h.mono (Nat.le_succ n)
    refine ⟨⟨fun i => ?_, hm.waiting, hm.created, hm.held, hm.count, hm.total, hm.mx, hm.bk, st_put h ht id tg htg, hm.fa, hm.cl⟩, ⟨ht.co.put (key_id _) _, ht.fa, ht.cl⟩⟩
    have := h.ga i
    show _ ≤ bump (bump _ _ _) _ _ i ∧ bump (bump _ _ _) _ _ i ≤ _
    unfold bump
    split <;> split <;> omega
  · rw [if_neg e]; exact ⟨h.mono (Nat.le_succ n), ht⟩
theorem tally_step {n : Nat} {D : DataW Unit} (hD : Tidy D) (h : ∀ r : ByteArray, ∃ c : Int, 0 ≤ c ∧ c ≤ n ∧ D.atKey (krs r) (n64 0) = n64 c) (r0 r : ByteArray) :
    ∃ c : Int, 0 ≤ c ∧ c ≤ ((n + 1 : Nat) : Int) ∧ (D.put (krs r0) (n64 (valI (D.atKey (krs r0) (n64 0)) + 1))).atKey (krs r) (n64 0) = n64 c := by
  obtain ⟨c0, a1, a2, a3⟩ := h r0
  obtain ⟨c, b1, b2, b3⟩ := h r
  by_cases e : krs r = krs r0
  · rw [e]
    exact ⟨c0 + 1, by omega, by omega, by rw [atKey_put_same hD.isMap (key_rs _), a3]; rfl⟩
  · rw [atKey_put_other e]; exact ⟨c, b1, by omega, b3⟩
theorem bd_drop {n : Nat} {S : St} (h : Bd n S) (ht : Tid S) (id : Int) : Bd (n + 1) (stDrop S id) ∧ Tid (stDrop S id) ∧ (stDrop S id).closed = S.closed := by
  unfold stDrop
  by_cases e : has S.conns (kid id) = true
  · rw [if_pos e]
    have hm := h.mono (Nat.le_succ n)
    refine ⟨⟨fun i => ?_, hm.waiting, hm.created, hm.held, hm.count, hm.total, hm.mx, hm.bk, fun i => ?_, hm.fa, hm.cl⟩, ⟨ht.co.del _, ht.fa, ht.cl⟩, rfl⟩
    · have := bump_le S.ga (valI (S.conns.atKey (kid id) (u8 0))).toNat (-1) _ _ i (h.ga i) (by omega)
      show _ ≤ bump S.ga _ (-1) i ∧ bump S.ga _ (-1) i ≤ _
      omega
    · show ∃ s : Nat, s < 3 ∧ (S.conns.del (kid id)).atKey (kid i) (u8 0) = u8 s
      by_cases e : kid i = kid id
      · rw [e, atKey_del_same]; exact ⟨0, by omega, rfl⟩
      · rw [atKey_del_other e]; exact h.st i
  · rw [if_neg e]; exact ⟨h.mono (Nat.le_succ n), ht, rfl⟩
theorem bd_wait {n : Nat} {S : St} (h : Bd n S) (ht : Tid S) (x : Int) (hx : -1 ≤ x ∧ x ≤ 1) : Bd (n + 1) (stWait S x) ∧ Tid (stWait S x) := by
  have hm := h.mono (Nat.le_succ n)
  exact ⟨⟨hm.ga, by have := h.waiting; show _ ≤ S.waiting + x ∧ S.waiting + x ≤ _; omega, hm.created, hm.held, hm.count, hm.total, hm.mx, hm.bk, hm.st, hm.fa, hm.cl⟩, ⟨ht.co, ht.fa, ht.cl⟩⟩

/-- One event keeps the bounds. -/
theorem bd_obs {n : Nat} {S : St} (h : Bd n S) (ht : Tid S) (ty rs : ByteArray) (id d : Int) (hd : d ≤ 9223372036854775807) : Bd (n + 1) (obs S ty rs id d) ∧ Tid (obs S ty rs id d) := by
  have hm := h.mono (Nat.le_succ n)
  unfold obs
  split
  · refine ⟨⟨fun i => ?_, hm.waiting, ?_, hm.held, hm.count, hm.total, hm.mx, hm.bk, st_put h ht id 0 (by omega), hm.fa, hm.cl⟩, ⟨ht.co.put (key_id _) _, ht.fa, ht.cl⟩⟩
    · have := bump_le S.ga 0 1 _ _ i (h.ga i) (by omega)
      show _ ≤ bump S.ga 0 1 i ∧ bump S.ga 0 1 i ≤ _
      omega
    · have := h.created
      show 0 ≤ S.created + 1 ∧ S.created + 1 ≤ _
      omega
  split
  · exact bd_move h ht id 1 (by omega)
  split
  · exact bd_move h ht id 1 (by omega)
  split
  · obtain ⟨b1, t1⟩ := bd_move h ht id 2 (by omega)
    have e1 : (stMove S id 2).waiting = S.waiting ∧ (stMove S id 2).count = S.count ∧ (stMove S id 2).bk = S.bk := by unfold stMove; split <;> exact ⟨rfl, rfl, rfl⟩
    refine ⟨⟨b1.ga, ?_, b1.created, b1.held, ?_, ?_, ?_, fun i => ?_, b1.st, b1.fa, b1.cl⟩, ⟨t1.co, t1.fa, t1.cl⟩⟩
    · have := h.waiting
      show _ ≤ (stMove S id 2).waiting + -1 ∧ (stMove S id 2).waiting + -1 ≤ _
      rw [e1.1]; omega
    · have := h.count
      show _ ≤ (stMove S id 2).count + 1 ∧ (stMove S id 2).count + 1 ≤ _
      rw [e1.2.1]; omega
    · have := b1.total
      show 0 ≤ (if 9223372036854775807 - max d 0 < (stMove S id 2).total then 9223372036854775807 else (stMove S id 2).total + max d 0) ∧ _
      split <;> (constructor <;> first | omega | (show (if 9223372036854775807 - max d 0 < (stMove S id 2).total then 9223372036854775807 else (stMove S id 2).total + max d 0) ≤ _; split <;> omega))
    · have := b1.mx
      show 0 ≤ max (stMove S id 2).mx (max d 0) ∧ max (stMove S id 2).mx (max d 0) ≤ _
      omega
    · have := h.bk i
      show 0 ≤ bump (stMove S id 2).bk _ 1 i ∧ bump (stMove S id 2).bk _ 1 i ≤ _
      rw [e1.2.2]
      unfold bump
      split <;> omega
  split
  · obtain ⟨b1, t1, c1⟩ := bd_drop h ht id
    refine ⟨⟨b1.ga, b1.waiting, b1.created, b1.held, b1.count, b1.total, b1.mx, b1.bk, b1.st, b1.fa, fun r => ?_⟩, ⟨t1.co, t1.fa, t1.cl.put (key_rs _) _⟩⟩
    exact tally_step t1.cl (by rw [c1]; exact h.cl) rs r
  split
  · exact bd_wait h ht 1 (by omega)
  split
  · obtain ⟨b1, t1⟩ := bd_wait h ht (-1) (by omega)
    refine ⟨⟨b1.ga, b1.waiting, b1.created, b1.held, b1.count, b1.total, b1.mx, b1.bk, b1.st, fun r => ?_, b1.cl⟩, ⟨t1.co, t1.fa.put (key_rs _) _, t1.cl⟩⟩
    exact tally_step (D := (stWait S (-1)).failed) t1.fa h.fa rs r
  split
  · have := h.held
    exact ⟨⟨hm.ga, hm.waiting, hm.created, by show 0 ≤ S.held + 1 ∧ S.held + 1 ≤ _; omega, hm.count, hm.total, hm.mx, hm.bk, hm.st, hm.fa, hm.cl⟩, ⟨ht.co, ht.fa, ht.cl⟩⟩
  · exact ⟨hm, ht⟩

/-- The collector behind the first k events. -/
def evs (E : Nat → Ev) : Nat → St
  | 0 => stZero
  | k + 1 => obs (evs E k) (E k).ty (E k).rs (E k).id (E k).d
theorem bd_zero : Bd 0 stZero :=
  ⟨fun _ => by simp [stZero], by simp [stZero], by simp [stZero], by simp [stZero], by simp [stZero], by simp [stZero], by simp [stZero], fun _ => by simp [stZero], fun _ => ⟨0, by omega, rfl⟩, fun _ => ⟨0, by omega, by omega, rfl⟩, fun _ => ⟨0, by omega, by omega, rfl⟩⟩
theorem tid_zero : Tid stZero := ⟨tidy_empty, tidy_empty, tidy_empty⟩
theorem bd_evs (E : Nat → Ev) (N : Nat) (hE : ∀ i, i < N → (E i).d ≤ 9223372036854775807) : ∀ k, k ≤ N → Bd k (evs E k) ∧ Tid (evs E k)
  | 0, _ => ⟨bd_zero, tid_zero⟩
  | k + 1, hk => by
    obtain ⟨h1, h2⟩ := bd_evs E N hE k (by omega)
    exact bd_obs h1 h2 _ _ _ _ (hE k (by omega))

/-! ### the waits -/
def isOut (e : Ev) : Bool := e.ty.toList == tOut
def wt (e : Ev) : Nat := (max e.d 0).toNat
def cntO (E : Nat → Ev) : Nat → Nat
  | 0 => 0
  | k + 1 => if isOut (E k) then cntO E k + 1 else cntO E k
def totO (E : Nat → Ev) : Nat → Nat
  | 0 => 0
  | k + 1 => if isOut (E k) then min (totO E k + wt (E k)) 9223372036854775807 else totO E k
def mxO (E : Nat → Ev) : Nat → Nat
  | 0 => 0
  | k + 1 => if isOut (E k) then max (mxO E k) (wt (E k)) else mxO E k
def bkO (E : Nat → Ev) (b : Nat) : Nat → Nat
  | 0 => 0
  | k + 1 => if isOut (E k) && decide (lo b ≤ wt (E k) ∧ wt (E k) < hi b) then bkO E b k + 1 else bkO E b k

theorem obs_out (S : St) (e : Ev) (h : isOut e = true) : obs S e.ty e.rs e.id e.d = stAdd (stWait (stMove S e.id 2) (-1)) e.d := by
  have h' : e.ty.toList = tOut := by simpa [isOut] using h
  unfold obs
  rw [h', if_neg (by decide), if_neg (by decide), if_neg (by decide), if_pos (by decide)]
theorem move_hist (S : St) (id : Int) (tg : Nat) : (stMove S id tg).count = S.count ∧ (stMove S id tg).total = S.total ∧ (stMove S id tg).mx = S.mx ∧ (stMove S id tg).bk = S.bk := by
  unfold stMove; split <;> exact ⟨rfl, rfl, rfl, rfl⟩
theorem drop_hist (S : St) (id : Int) : (stDrop S id).count = S.count ∧ (stDrop S id).total = S.total ∧ (stDrop S id).mx = S.mx ∧ (stDrop S id).bk = S.bk := by
  unfold stDrop; split <;> exact ⟨rfl, rfl, rfl, rfl⟩
theorem obs_else (S : St) (e : Ev) (h : isOut e = false) : (obs S e.ty e.rs e.id e.d).count = S.count ∧ (obs S e.ty e.rs e.id e.d).total = S.total ∧ (obs S e.ty e.rs e.id e.d).mx = S.mx ∧ (obs S e.ty e.rs e.id e.d).bk = S.bk := by
  have h' : (e.ty.toList == tOut) = false := h
  unfold obs
  rw [h']
  simp only [Bool.false_eq_true, if_false]
  split
  · exact ⟨rfl, rfl, rfl, rfl⟩
  split
  · exact move_hist _ _ _
  split
  · exact move_hist _ _ _
  split
  · exact drop_hist S e.id
  split
  · exact ⟨rfl, rfl, rfl, rfl⟩
  split
  · exact ⟨rfl, rfl, rfl, rfl⟩
  split <;> exact ⟨rfl, rfl, rfl, rfl⟩
theorem totO_le (E : Nat → Ev) : ∀ k, totO E k ≤ 9223372036854775807
  | 0 => by unfold totO; omega
  | k + 1 => by have := totO_le E k; unfold totO; split <;> omega
theorem hist_evs (E : Nat → Ev) (N : Nat) (hE : ∀ i, i < N → (E i).d ≤ 9223372036854775807) : ∀ k, k ≤ N → (evs E k).count = cntO E k ∧ (evs E k).total = totO E k ∧ (evs E k).mx = mxO E k ∧ ∀ b, (evs E k).bk b = bkO E b k
  | 0, _ => ⟨rfl, rfl, rfl, fun _ => rfl⟩
  | k + 1, hk => by
    obtain ⟨h1, h2, h3, h4⟩ := hist_evs E N hE k (by omega)
    have hd := hE k (by omega)
    unfold evs cntO totO mxO bkO
    cases e : isOut (E k)
    · obtain ⟨g1, g2, g3, g4⟩ := obs_else (evs E k) (E k) e
      rw [g1, g2, g3, g4]
      simpa using ⟨h1, h2, h3, h4⟩
    · obtain ⟨g1, g2, g3, g4⟩ := move_hist (evs E k) (E k).id 2
      have hw : max (E k).d 0 = (wt (E k) : Int) := by unfold wt; omega
      have hw2 : wt (E k) < 2 ^ 63 := by unfold wt; omega
      have htg := totO_le E k
      rw [obs_out _ _ e]
      refine ⟨?_, ?_, ?_, fun b => ?_⟩
      · show (stMove _ _ _).count + 1 = _
        rw [g1, h1]; simp
      · show (if 9223372036854775807 - max (E k).d 0 < (stMove _ _ _).total then 9223372036854775807 else (stMove _ _ _).total + max (E k).d 0) = _
        rw [g2, h2, hw]
        simp only [if_true]
        split <;> omega
      · show max (stMove _ _ _).mx (max (E k).d 0) = _
        rw [g3, h3, hw]
        simp only [if_true]
        omega
      · show bump (stMove _ _ _).bk (bkt (max (E k).d 0).toNat) 1 b = _
        rw [g4, show (max (E k).d 0).toNat = wt (E k) from rfl]
        unfold bump
        rw [h4]
        simp only [Bool.true_and, decide_eq_true_eq]
        by_cases hb : bkt (wt (E k)) = b
        · rw [if_pos hb.symm, if_pos ((bkt_iff b _ hw2).1 hb)]; simp
        · rw [if_neg (fun e => hb e.symm), if_neg (fun e => hb ((bkt_iff b _ hw2).2 e))]
end Go.Proofs.Qxb6615473a
