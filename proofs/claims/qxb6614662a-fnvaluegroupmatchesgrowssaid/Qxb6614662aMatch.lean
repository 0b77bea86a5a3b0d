import Derived.Test.Qxb6614662aHolds
namespace Go.Proofs.Qxb6614662a
open Go.RowKit
set_option linter.unusedVariables false

theorem mis_many (k : Int) (f : Nat → ByteArray) (n : Nat) (x : ByteArray) (h : (1 : Int) < (n : Int)) : Pl.mis k (tx f n) x.data.toList = true := by
  unfold Pl.mis
  rw [tx_len, show decide (1 < n) = true from decide_eq_true (by omega)]
  rfl
theorem mis_one (k : Int) (f : Nat → ByteArray) (x : ByteArray) : Pl.mis k (tx f 1) x.data.toList = !(Pl.kcmp k (f 0).data.toList x.data.toList == 0) := by
  unfold Pl.mis
  rw [tx_len, tx_at f 1 0 (by omega)]
  rfl

set_option maxHeartbeats 1000000 in
theorem mis_big (k : Int) (hk2 : (k == 2) = false) (b off n cap Bg Bw : Nat) (f : Nat → ByteArray) (x : ByteArray) (w : World)
    (g2 : w.cell? ⟨Bg, 2, none⟩ = some (.slice (some ⟨b, off, none⟩) n cap)) (w0 : w.cell? ⟨Bw, 0, none⟩ = some (.string x)) (w9 : w.cell? ⟨Bw, 9, none⟩ = some (.int .u8 k)) (h1 : (1 : Int) < (n : Int)) :
    Calls Try.prog 31 #[.pointer (some ⟨Bg, 0, none⟩), .pointer (some ⟨Bw, 0, none⟩)] w fun e w' => e = .returned (.bool (Pl.mis k (tx f n) x.data.toList)) ∧ ∃ q, w' = w.drewN q := by
  have hk2' : (k != 2) = true := by simpa using hk2
  have hm := hide (mis_many k f n x h1)
  clear hk2
  go_enter Try.func31, Try.ntmps31
  go_wp2
  go_quiet (fail)
  go_wp2
  go_ret
  exact ⟨ret_bool (by rw [unhide hm]), _, rfl⟩

set_option maxHeartbeats 1000000 in
theorem mis_lone (k : Int) (hk2 : (k == 2) = false) (b off cap Bg Bw : Nat) (f : Nat → ByteArray) (x : ByteArray) (w : World) (ht : Txt w b off 1 f)
    (g2 : w.cell? ⟨Bg, 2, none⟩ = some (.slice (some ⟨b, off, none⟩) 1 cap)) (w0 : w.cell? ⟨Bw, 0, none⟩ = some (.string x)) (w9 : w.cell? ⟨Bw, 9, none⟩ = some (.int .u8 k)) :
    Calls Try.prog 31 #[.pointer (some ⟨Bg, 0, none⟩), .pointer (some ⟨Bw, 0, none⟩)] w fun e w' => e = .returned (.bool (Pl.mis k (tx f 1) x.data.toList)) ∧ ∃ q, w' = w.drewN q := by
  have hk2' : (k != 2) = true := by simpa using hk2
  have hm := hide (mis_one k f x)
  have hc0 : w.cell? ⟨b, off, none⟩ = some (.string (f 0)) := (ht 0 (by omega)).1
  have C := hide (fun w => equal_any k (f 0) x w (ht 0 (by omega)).2)
  clear hk2 ht
  go_enter Try.func31, Try.ntmps31
  go_wp2
  go_quiet ((go_at_call 42; exact Calls.quiet_of (unhide C _)))
  go_wp2
  go_ret
  exact ⟨ret_bool (by rw [unhide hm]), _, rfl⟩

theorem mism_any (k : Int) (hk2 : (k == 2) = false) (b off n cap Bg Bw : Nat) (f : Nat → ByteArray) (x : ByteArray) (w : World) (hn : 0 < n) (ht : Txt w b off n f)
    (g2 : w.cell? ⟨Bg, 2, none⟩ = some (.slice (some ⟨b, off, none⟩) n cap)) (w0 : w.cell? ⟨Bw, 0, none⟩ = some (.string x)) (w9 : w.cell? ⟨Bw, 9, none⟩ = some (.int .u8 k)) :
    Calls Try.prog 31 #[.pointer (some ⟨Bg, 0, none⟩), .pointer (some ⟨Bw, 0, none⟩)] w fun e w' => e = .returned (.bool (Pl.mis k (tx f n) x.data.toList)) ∧ ∃ q, w' = w.drewN q := by
  by_cases h1 : (1 : Int) < (n : Int)
  · exact mis_big k hk2 b off n cap Bg Bw f x w g2 w0 w9 h1
  · have e : n = 1 := by omega
    subst e
    exact mis_lone k hk2 b off cap Bg Bw f x w ht g2 w0 w9

set_option maxHeartbeats 2000000 in
/-- matches. -/
theorem matches_any (gn wn : Bool) (gk wk : Int) (hk2 : (gk == 2) = false) (b off n cap Bg Bw : Nat) (f : Nat → ByteArray) (x : ByteArray) (w : World) (h0 : 0 < n) (hn : n ≤ 65537) (hx : x.size ≤ maxLen) (ht : Txt w b off n f) (hu : Pl.Up gk (tx f n))
    (g0 : w.cell? ⟨Bg, 0, none⟩ = some (.bool gn)) (g1 : w.cell? ⟨Bg, 1, none⟩ = some (.int .u8 gk)) (g2 : w.cell? ⟨Bg, 2, none⟩ = some (.slice (some ⟨b, off, none⟩) n cap))
    (w0 : w.cell? ⟨Bw, 0, none⟩ = some (.string x)) (w9 : w.cell? ⟨Bw, 9, none⟩ = some (.int .u8 wk)) (w10 : w.cell? ⟨Bw, 10, none⟩ = some (.bool wn)) :
    Calls Try.prog 25 #[.pointer (some ⟨Bg, 0, none⟩), .pointer (some ⟨Bw, 0, none⟩)] w fun e w' => e = .returned (.bool (Pl.mat gn gk (tx f n) x.data.toList wk wn)) ∧ ∃ q, w' = w.drewN q := by
  have HU := hide hu
  clear hu
  unfold Pl.mat
  cases hk : (gk == wk)
  · have hk' : (gk != wk) = true := by simpa using hk
    clear hk
    cases gn <;> cases wn
    all_goals
      go_enter Try.func25, Try.ntmps25
      go_wp2
      go_quiet (fail)
      go_wp2
      go_quiet (fail)
      go_wp2
      go_ret
      exact ⟨rfl, by first | exact ⟨_, rfl⟩ | exact ⟨_, World.drewN_drewN _ _ _⟩⟩
  · have hk' : (gk != wk) = false := by simpa using hk
    have e : gk = wk := by simpa using hk
    subst e
    have C1 := hide (fun (m : Nat) => holds_any gk hk2 b off n cap Bg Bw f x (w.drewN m) hn hx (ht.drawn ⟨m, rfl⟩) HU (cell_drawn g2 ⟨m, rfl⟩) (cell_drawn w0 ⟨m, rfl⟩) (cell_drawn w9 ⟨m, rfl⟩))
    have C2 := hide (fun (m : Nat) => mism_any gk hk2 b off n cap Bg Bw f x (w.drewN m) h0 (ht.drawn ⟨m, rfl⟩) (cell_drawn g2 ⟨m, rfl⟩) (cell_drawn w0 ⟨m, rfl⟩) (cell_drawn w9 ⟨m, rfl⟩))
    clear hk
    cases gn <;> cases wn
    all_goals
      go_enter Try.func25, Try.ntmps25
      go_wp2
      go_quiet (fail)
      go_wp2
      go_quiet (fail)
      go_wp2_with fail
      first | (go_at_call 30; refine (unhide C1 _).mono ?_) | (go_at_call 31; refine (unhide C2 _).mono ?_)
      rintro e w1 ⟨rfl, q, rfl⟩
      go_wp2_with fail
      go_ret
      exact ⟨rfl, _, rfl⟩

theorem Txt.alloc {w : World} {b off n : Nat} {f : Nat → ByteArray} (h : Txt w b off n f) (hb : b < w.heap.size) (o : Obj) : Txt (w.alloc o) b off n f := fun i hi =>
  ⟨(World.cell?_alloc_past o b (off + i) hb).trans (h i hi).1, (h i hi).2⟩
theorem below_draws {B : Nat} {w w' : World} (h : Below B w w') (q : Nat) : Below B w (w'.drewN q) := by
  induction q with
  | zero => exact h
  | succ q ih => exact ih.drew

set_option maxHeartbeats 2000000 in
/-- ZZmatchesText. -/
theorem zzm_any (gn wn : Bool) (gk wk : Int) (hk2 : (gk == 2) = false) (b off n cap : Nat) (f : Nat → ByteArray) (x : ByteArray) (w : World) (h0 : 0 < n) (hn : n ≤ 65537) (hx : x.size ≤ maxLen) (hb : b < w.heap.size) (ht : Txt w b off n f) (hu : Pl.Up gk (tx f n)) :
    Calls Try.prog 16 #[.bool gn, .int .u8 gk, .slice (some ⟨b, off, none⟩) n cap, .string x, .int .u8 wk, .bool wn] w fun e w' => e = .returned (.bool (Pl.mat gn gk (tx f n) x.data.toList wk wn)) ∧ Below w.heap.size w w' := by
  have HU := hide hu
  clear hu
  go_enter Try.func16, Try.ntmps16
  go_wp2_with fail
  refine (matches_any gn wn gk wk hk2 b off n cap w.heap.size (w.heap.size + 1) f x _ h0 hn hx ((ht.alloc hb _).alloc (by simp; omega) _) HU (by simp [go_sem]) (by simp [go_sem]) (by simp [go_sem]) (by simp [go_sem]) (by simp [go_sem]) (by simp [go_sem])).mono ?_
  rintro e w1 ⟨rfl, q, rfl⟩
  go_wp2_with fail
  go_ret
  exact ⟨rfl, below_draws (((Below.refl _ _).alloc (Nat.le_refl _) _).alloc (by simp) _) _⟩

end Go.Proofs.Qxb6614662a
