import Derived.Test.Qxb6614662aSearch
import Derived.Deep.RegionHeld3
import Derived.Laws.Pointers
import Derived.StillTactics
namespace Go.Proofs.Qxb6614662a
open Go.RowKit
set_option linter.unusedVariables false

set_option maxHeartbeats 1000000 in
theorem holds_big (k : Int) (hk2 : (k == 2) = false) (b off n cap Bg Bw : Nat) (f : Nat → ByteArray) (x : ByteArray) (w : World) (hn : n ≤ 65537) (hx : x.size ≤ maxLen) (ht : Txt w b off n f) (hu : Pl.Up k (tx f n))
    (g2 : w.cell? ⟨Bg, 2, none⟩ = some (.slice (some ⟨b, off, none⟩) n cap)) (w0 : w.cell? ⟨Bw, 0, none⟩ = some (.string x)) (w9 : w.cell? ⟨Bw, 9, none⟩ = some (.int .u8 k)) (h4 : (4 : Int) < (n : Int)) :
    Calls Try.prog 30 #[.pointer (some ⟨Bg, 0, none⟩), .pointer (some ⟨Bw, 0, none⟩)] w fun e w' => e = .returned (.bool (Pl.hit k (tx f n) x.data.toList)) ∧ ∃ q, w' = w.drewN q := by
  have HU := hide hu
  clear hu
  have C := hide (fun (m : Nat) => search_any k b off n cap f x (w.drewN m) hn hx (ht.drawn ⟨m, rfl⟩) HU)
  go_enter Try.func30, Try.ntmps30
  go_wp2
  go_quiet ((go_at_call 38; exact Calls.quiet_of (unhide C _)))
  go_wp2
  go_ret
  exact ⟨rfl, _, rfl⟩

set_option maxHeartbeats 1000000 in
theorem holds_str (k : Int) (hk2 : (k == 2) = false) (hk0 : (k == 0) = false) (b off n cap Bg Bw : Nat) (f : Nat → ByteArray) (x : ByteArray) (w : World) (hn : n ≤ 65537) (hx : x.size ≤ maxLen) (ht : Txt w b off n f)
    (g2 : w.cell? ⟨Bg, 2, none⟩ = some (.slice (some ⟨b, off, none⟩) n cap)) (w0 : w.cell? ⟨Bw, 0, none⟩ = some (.string x)) (w9 : w.cell? ⟨Bw, 9, none⟩ = some (.int .u8 k)) (h4 : ¬ (4 : Int) < (n : Int)) :
    Calls Try.prog 30 #[.pointer (some ⟨Bg, 0, none⟩), .pointer (some ⟨Bw, 0, none⟩)] w fun e w' => e = .returned (.bool (Pl.hit k (tx f n) x.data.toList)) ∧ ∃ q, w' = w.drewN q := by
  have hk0' : (k != 0) = true := by simpa using hk0
  have C := hide (fun (m : Nat) => contains_any k hk0 b off n cap f x (w.drewN m) hn (ht.drawn ⟨m, rfl⟩))
  clear hk0
  go_enter Try.func30, Try.ntmps30
  go_wp2
  go_quiet ((go_at_call 40; exact Calls.quiet_of_same (unhide C _)))
  go_wp2
  go_ret
  exact ⟨rfl, _, rfl⟩

theorem cell_drawn {w wr : World} {a : Addr} {v : Value} (h : w.cell? a = some v) (hq : Hid (∃ q, wr = w.drewN q)) : wr.cell? a = some v := by
  obtain ⟨q, rfl⟩ := hq
  simpa using h

set_option maxHeartbeats 1000000 in
theorem holds_tok (k : Int) (hk2 : (k == 2) = false) (hk0 : (k == 0) = true) (b off n cap Bg Bw : Nat) (f : Nat → ByteArray) (x : ByteArray) (w : World) (hn : n ≤ 65537) (hx : x.size ≤ maxLen) (ht : Txt w b off n f)
    (g2 : w.cell? ⟨Bg, 2, none⟩ = some (.slice (some ⟨b, off, none⟩) n cap)) (w0 : w.cell? ⟨Bw, 0, none⟩ = some (.string x)) (w9 : w.cell? ⟨Bw, 9, none⟩ = some (.int .u8 k)) (h4 : ¬ (4 : Int) < (n : Int)) :
    Calls Try.prog 30 #[.pointer (some ⟨Bg, 0, none⟩), .pointer (some ⟨Bw, 0, none⟩)] w fun e w' => e = .returned (.bool (Pl.hit k (tx f n) x.data.toList)) ∧ ∃ q, w' = w.drewN q := by
  have hk0' : (k != 0) = false := by simpa using hk0
  have HK := hide hk0
  clear hk0
  go_enter Try.func30, Try.ntmps30
  go_wp2
  have W0 := hide w0
  clear w0 w9 g2
  go_loopw [62] (fun i wr => ∃ m : Nat, m ≤ n ∧ i = .int .i64 m ∧ Hid (∃ q, wr = w.drewN q) ∧ Hid (∀ j, j < m → (Pl.kcmp k (f j).data.toList x.data.toList == 0) = false)) (fun i _ => n - (intOf i).toNat)
  case atStart => exact ⟨0, Nat.zero_le _, rfl, ⟨0, rfl⟩, hide (fun j hj => absurd hj (Nat.not_lt_zero j))⟩
  case round =>
    obtain ⟨i, hi, rfl, hq, hd⟩ := hrel
    have w0 := cell_drawn (unhide W0) hq
    by_cases hlt : i < n
    · have hlt2 : (i : Int) < (n : Int) := by omega
      have hci := (ht.drawn hq i hlt).1
      cases hl : (((f i).size : Int) == (x.size : Int))
      · have hz := hide (kc_len_ne k (f i) x hl)
        go_wp2
        go_roundw
        case rel =>
          refine ⟨i + 1, by omega, by go_num, hq, hide (fun j hj => ?_)⟩
          rcases Nat.lt_or_ge j i with h | h
          · exact unhide hd j h
          · have : j = i := by omega
            subst this
            exact unhide hz
        case measure => simp [intOf]; omega
      · have hs : Hid ((f i).size = x.size) := hide (by have := beq_iff_eq.1 hl; omega)
        have C := hide (fun w => equalFold_any k (f i) x w HK (ht i hlt).2 hs)
        generalize hr : (Pl.kcmp k (f i).data.toList x.data.toList == 0) = r at *
        have HR := hide hr
        clear hr
        cases r
        · go_wp2_with fail
          refine (unhide C _).mono ?_
          rintro e w1 ⟨rfl, q, rfl⟩
          go_wp2_with fail
          go_roundw
          case rel =>
            refine ⟨i + 1, by omega, by go_num, drawn_more hq _, hide (fun j hj => ?_)⟩
            rcases Nat.lt_or_ge j i with h | h
            · exact unhide hd j h
            · have : j = i := by omega
              subst this
              exact unhide HR
          case measure => simp [intOf]; omega
        · go_wp2_with fail
          refine (unhide C _).mono ?_
          rintro e w1 ⟨rfl, q, rfl⟩
          go_wp2_with fail
          go_ret
          exact ⟨ret_bool (by unfold Pl.hit; rw [any_true f n _ i hlt (unhide HR)]), drawn_more hq _⟩
    · have hge : ¬ (i : Int) < (n : Int) := by omega
      have e : i = n := by omega
      subst e
      go_wp2
      go_ret
      exact ⟨ret_bool (by unfold Pl.hit; rw [any_false f i _ (unhide hd)]), hq⟩

/-- holdsMatch, at a group of texts. -/
theorem holds_any (k : Int) (hk2 : (k == 2) = false) (b off n cap Bg Bw : Nat) (f : Nat → ByteArray) (x : ByteArray) (w : World) (hn : n ≤ 65537) (hx : x.size ≤ maxLen) (ht : Txt w b off n f) (hu : Pl.Up k (tx f n))
    (g2 : w.cell? ⟨Bg, 2, none⟩ = some (.slice (some ⟨b, off, none⟩) n cap)) (w0 : w.cell? ⟨Bw, 0, none⟩ = some (.string x)) (w9 : w.cell? ⟨Bw, 9, none⟩ = some (.int .u8 k)) :
    Calls Try.prog 30 #[.pointer (some ⟨Bg, 0, none⟩), .pointer (some ⟨Bw, 0, none⟩)] w fun e w' => e = .returned (.bool (Pl.hit k (tx f n) x.data.toList)) ∧ ∃ q, w' = w.drewN q := by
  by_cases h4 : (4 : Int) < (n : Int)
  · exact holds_big k hk2 b off n cap Bg Bw f x w hn hx ht hu g2 w0 w9 h4
  · cases hk0 : (k == 0)
    · exact holds_str k hk2 hk0 b off n cap Bg Bw f x w hn hx ht g2 w0 w9 h4
    · exact holds_tok k hk2 hk0 b off n cap Bg Bw f x w hn hx ht g2 w0 w9 h4

end Go.Proofs.Qxb6614662a
