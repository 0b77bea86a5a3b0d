import Derived.Test.Qxb6614662aKindsB
namespace Go.Proofs.Qxb6614662a
open Go.RowKit
set_option linter.unusedVariables false

/-- The n strings f 0, f 1, .. lie at that place. -/
def Txt (w : World) (b off n : Nat) (f : Nat → ByteArray) : Prop := ∀ i, i < n → w.cell? ⟨b, off + i, none⟩ = some (.string (f i)) ∧ (f i).size ≤ maxLen
/-- .. as lists of bytes. -/
def tx (f : Nat → ByteArray) (n : Nat) : List (List UInt8) := (List.range n).map fun i => (f i).data.toList

theorem tx_len (f : Nat → ByteArray) (n : Nat) : (tx f n).length = n := by simp [tx]
theorem tx_at (f : Nat → ByteArray) (n i : Nat) (h : i < n) : Pl.at_ (tx f n) i = (f i).data.toList := by
  unfold Pl.at_ tx
  rw [List.getD_eq_getElem?_getD, List.getElem?_eq_getElem (by simpa using h)]
  simp
theorem Txt.drawn {w wr : World} {b off n : Nat} {f : Nat → ByteArray} (h : Txt w b off n f) (hq : Hid (∃ q, wr = w.drewN q)) : Txt wr b off n f := by
  obtain ⟨q, rfl⟩ := hq
  intro i hi
  exact ⟨by simpa using (h i hi).1, (h i hi).2⟩

theorem kc_zero_eq (k : Int) (hk : k ≠ 0) : ∀ (a b : List UInt8), (Pl.kcmp k a b == 0) = (a == b)
  | [], [] => rfl
  | [], _ :: _ => rfl
  | _ :: _, [] => rfl
  | x :: a, y :: b => by
    have ih := kc_zero_eq k hk a b
    unfold Pl.kcmp
    simp only [Pl.kb, if_neg hk]
    by_cases h1 : x.toNat < y.toNat
    · rw [if_pos h1]
      have : (x == y) = false := by simp; intro e; subst e; omega
      simp [this]
    · by_cases h2 : y.toNat < x.toNat
      · rw [if_neg h1, if_pos h2]
        have : (x == y) = false := by simp; intro e; subst e; omega
        simp [this]
      · rw [if_neg h1, if_neg h2, ih]
        have : x = y := UInt8.toNat_inj.1 (by omega)
        subst this
        simp

theorem beq_lists (a b : ByteArray) : (a.toList == b.toList) = (a.data.toList == b.data.toList) := by rw [Lib.toList_data, Lib.toList_data]

set_option maxHeartbeats 1000000 in
theorem equal_1 (k : Int) (a b : ByteArray) (w : World) (hk : (k == 0) = false) :
    Calls Try.prog 42 #[.int .u8 k, .string a, .string b] w fun e w' => e = .returned (.bool (Pl.kcmp k a.data.toList b.data.toList == 0)) ∧ ∃ n, w' = w.drewN n := by
  have hk' : (k != 0) = true := by simpa using hk
  have he := hide (kc_zero_eq k (by simpa using hk) a.data.toList b.data.toList)
  clear hk
  go_enter Try.func42, Try.ntmps42
  go_wp2
  go_ret
  exact ⟨ret_bool (by rw [unhide he, beq_lists]), 0, rfl⟩

theorem kc_len (k : Int) : ∀ (a b : List UInt8), Pl.kcmp k a b = 0 → a.length = b.length
  | [], [], _ => rfl
  | [], _ :: _, h => by simp [Pl.kcmp] at h
  | _ :: _, [], h => by simp [Pl.kcmp] at h
  | x :: a, y :: b, h => by
    unfold Pl.kcmp at h
    split at h
    · cases h
    · split at h
      · cases h
      · rw [List.length_cons, List.length_cons, kc_len k a b h]
theorem kc_len_ne (k : Int) (a b : ByteArray) (h : ((a.size : Int) == (b.size : Int)) = false) : (Pl.kcmp k a.data.toList b.data.toList == 0) = false := by
  rw [beq_eq_false_iff_ne]
  intro e
  have := kc_len k _ _ e
  rw [size_len, size_len] at this
  rw [beq_eq_false_iff_ne] at h
  omega

set_option maxHeartbeats 1000000 in
theorem equal_0 (k : Int) (a b : ByteArray) (w : World) (hk : (k == 0) = true) (ha : a.size ≤ maxLen) :
    Calls Try.prog 42 #[.int .u8 k, .string a, .string b] w fun e w' => e = .returned (.bool (Pl.kcmp k a.data.toList b.data.toList == 0)) ∧ ∃ n, w' = w.drewN n := by
  have hk' : (k != 0) = false := by simpa using hk
  have HK := hide hk
  clear hk
  cases hl : ((a.size : Int) == (b.size : Int))
  · have he := hide (kc_len_ne k a b hl)
    go_enter Try.func42, Try.ntmps42
    go_wp2
    go_ret
    exact ⟨ret_bool (by rw [unhide he]), 0, rfl⟩
  · have hs : Hid (a.size = b.size) := hide (by have := beq_iff_eq.1 hl; omega)
    go_enter Try.func42, Try.ntmps42
    go_wp2_with fail
    refine (equalFold_any k a b _ HK ha hs).mono ?_
    rintro e w1 ⟨rfl, q, rfl⟩
    go_wp2_with fail
    go_ret
    exact ⟨rfl, q, rfl⟩

/-- (valueKind).equal. -/
theorem equal_any (k : Int) (a b : ByteArray) (w : World) (ha : a.size ≤ maxLen) :
    Calls Try.prog 42 #[.int .u8 k, .string a, .string b] w fun e w' => e = .returned (.bool (Pl.kcmp k a.data.toList b.data.toList == 0)) ∧ ∃ n, w' = w.drewN n := by
  cases hk : (k == 0)
  · exact equal_1 k a b w hk
  · exact equal_0 k a b w hk ha

/-! ### oneValueMatches, groupMatches, strictlyRising -/
set_option maxHeartbeats 1000000 in
theorem one_any (gn : Bool) (gk : Int) (t x : ByteArray) (wk : Int) (wn : Bool) (w : World) (ht : t.size ≤ maxLen) (hx : x.size ≤ maxLen) :
    Calls Try.prog 20 #[.bool gn, .int .u8 gk, .string t, .string x, .int .u8 wk, .bool wn] w fun e w' => e = .returned (.bool (Pl.one gn gk t.data.toList x.data.toList wk wn)) ∧ w' = w := by
  unfold Pl.one
  cases hk : (gk == wk)
  · have hk' : (gk != wk) = true := by simpa using hk
    clear hk
    cases gn <;> cases wn
    all_goals
      go_enter Try.func20, Try.ntmps20
      go_wp2
      go_ret
      exact ⟨rfl, rfl⟩
  · have hk' : (gk != wk) = false := by simpa using hk
    clear hk
    have C := hide (fun w => kindCmp_any gk t x w ht hx)
    generalize Pl.kcmp gk t.data.toList x.data.toList = c at *
    cases hc : (c == 0) <;> cases gn <;> cases wn
    all_goals
      go_enter Try.func20, Try.ntmps20
      go_wp2_with fail
      refine (unhide C _).mono ?_
      rintro e w' ⟨rfl, rfl⟩
      go_wp2_with fail
      go_ret
      exact ⟨rfl, rfl⟩

theorem any_false (f : Nat → ByteArray) (n : Nat) (p : List UInt8 → Bool) (h : ∀ j, j < n → p (f j).data.toList = false) : (tx f n).any p = false := by
  rw [Bool.eq_false_iff]
  intro e
  rw [Pl.any_at] at e
  obtain ⟨i, hi, hp⟩ := e
  rw [tx_len] at hi
  rw [tx_at f n i hi, h i hi] at hp
  cases hp
theorem any_true (f : Nat → ByteArray) (n : Nat) (p : List UInt8 → Bool) (i : Nat) (hi : i < n) (h : p (f i).data.toList = true) : (tx f n).any p = true := by
  rw [Pl.any_at]
  exact ⟨i, by rw [tx_len]; exact hi, by rw [tx_at f n i hi]; exact h⟩

set_option maxHeartbeats 1000000 in
theorem group_any (gn : Bool) (gk : Int) (b off n cap : Nat) (f : Nat → ByteArray) (x : ByteArray) (wk : Int) (wn : Bool) (w : World) (hn : n ≤ 65537) (hx : x.size ≤ maxLen) (ht : Txt w b off n f) :
    Calls Try.prog 17 #[.bool gn, .int .u8 gk, .slice (some ⟨b, off, none⟩) n cap, .string x, .int .u8 wk, .bool wn] w fun e w' => e = .returned (.bool (Pl.grp gn gk (tx f n) x.data.toList wk wn)) ∧ w' = w := by
  go_enter Try.func17, Try.ntmps17
  go_wp2
  go_loop [13] (fun i => ∃ m : Nat, m ≤ n ∧ i = .int .i64 m ∧ Hid (∀ j, j < m → Pl.one gn gk (f j).data.toList x.data.toList wk wn = false)) (fun i => n - (intOf i).toNat)
  case atStart => exact ⟨0, Nat.zero_le _, rfl, hide (fun j hj => absurd hj (Nat.not_lt_zero j))⟩
  case round =>
    obtain ⟨i, hi, rfl, hd⟩ := hrel
    by_cases hlt : i < n
    · have hlt2 : (i : Int) < (n : Int) := by omega
      have hci := (ht i hlt).1
      have C := hide (fun w => one_any gn gk (f i) x wk wn w (ht i hlt).2 hx)
      generalize hs : f i = s at *
      have HS := hide hs
      clear hs
      generalize hr : Pl.one gn gk s.data.toList x.data.toList wk wn = r at *
      have HR := hide hr
      clear hr
      cases r
      · go_wp2_with fail
        refine (unhide C _).mono ?_
        rintro e w' ⟨rfl, rfl⟩
        go_wp2_with fail
        go_round
        case rel =>
          refine ⟨i + 1, by omega, by go_num, hide (fun j hj => ?_)⟩
          rcases Nat.lt_or_ge j i with h | h
          · exact unhide hd j h
          · have : j = i := by omega
            subst this
            rw [unhide HS, unhide HR]
        case measure => simp [intOf]; omega
      · go_wp2_with fail
        refine (unhide C _).mono ?_
        rintro e w' ⟨rfl, rfl⟩
        go_wp2_with fail
        go_ret
        exact ⟨ret_bool (by unfold Pl.grp; rw [any_true f n _ i hlt (by rw [unhide HS, unhide HR])]), rfl⟩
    · have hge : ¬ (i : Int) < (n : Int) := by omega
      have e : i = n := by omega
      subst e
      go_wp2
      go_ret
      exact ⟨ret_bool (by unfold Pl.grp; rw [any_false f i _ (unhide hd)]), rfl⟩

theorem ups_false (k : Int) (f : Nat → ByteArray) (n i : Nat) (h : i + 1 < n) (hc : ¬ Pl.kcmp k (f i).data.toList (f (i + 1)).data.toList < 0) : Pl.ups k (tx f n) = false := by
  rw [Bool.eq_false_iff]
  intro e
  unfold Pl.ups at e
  rw [tx_len] at e
  have := List.all_eq_true.1 e i (List.mem_range.2 (by omega))
  rw [decide_eq_true_eq, tx_at f n i (by omega), tx_at f n (i + 1) h] at this
  exact hc this
theorem ups_true (k : Int) (f : Nat → ByteArray) (n : Nat) (h : ∀ i, i + 1 < n → Pl.kcmp k (f i).data.toList (f (i + 1)).data.toList < 0) : Pl.ups k (tx f n) = true := by
  unfold Pl.ups
  rw [tx_len]
  refine List.all_eq_true.2 fun i hi => ?_
  have hi' := List.mem_range.1 hi
  rw [decide_eq_true_eq, tx_at f n i (by omega), tx_at f n (i + 1) (by omega)]
  exact h i (by omega)

set_option maxHeartbeats 1000000 in
theorem rising_any (k : Int) (b off n cap : Nat) (f : Nat → ByteArray) (w : World) (hn : n ≤ 65537) (ht : Txt w b off n f) :
    Calls Try.prog 15 #[.int .u8 k, .slice (some ⟨b, off, none⟩) n cap] w fun e w' => e = .returned (.bool (Pl.ups k (tx f n))) ∧ ∃ q, w' = w.drewN q := by
  go_enter Try.func15, Try.ntmps15
  go_wp2
  go_loopw [5] (fun i wr => ∃ m : Nat, (m ≤ n ∨ m = 0) ∧ i = .int .i64 (m + 1 : Nat) ∧ Hid (∃ q, wr = w.drewN q) ∧ Hid (∀ j, j < m → Pl.kcmp k (f j).data.toList (f (j + 1)).data.toList < 0)) (fun i _ => n + 1 - (intOf i).toNat)
  case atStart => exact ⟨0, Or.inr rfl, rfl, ⟨0, rfl⟩, hide (fun j hj => absurd hj (Nat.not_lt_zero j))⟩
  case round =>
    obtain ⟨i, hi, rfl, hq, hd⟩ := hrel
    by_cases hlt : i + 1 < n
    · have hlt2 : (i : Int) + 1 < (n : Int) := by omega
      have ht' := ht.drawn hq
      have hc1 := (ht' i (by omega)).1
      have hc2 := (ht' (i + 1) hlt).1
      have C := hide (fun w => kindCmp_any k (f i) (f (i + 1)) w (ht i (by omega)).2 (ht (i + 1) hlt).2)
      clear hi ht' ht
      by_cases hc : Pl.kcmp k (f i).data.toList (f (i + 1)).data.toList < 0
      · have HC := hide hc
        go_wp2
        go_quiet ((go_at_call 24; exact Calls.quiet_of_same (unhide C _)))
        go_wp2
        go_roundw
        case rel =>
          refine ⟨i + 1, Or.inl (by omega), by go_num, drawn_more hq _, hide (fun j hj => ?_)⟩
          rcases Nat.lt_or_ge j i with h | h
          · exact unhide hd j h
          · have : j = i := by omega
            subst this
            exact unhide HC
        case measure => simp [intOf]; omega
      · go_wp2
        go_quiet ((go_at_call 24; exact Calls.quiet_of_same (unhide C _)))
        go_wp2
        go_ret
        exact ⟨ret_bool (by rw [ups_false k f n i hlt (by omega)]), drawn_more hq _⟩
    · have hge : ¬ (i : Int) + 1 < (n : Int) := by omega
      clear hi
      go_wp2
      go_ret
      exact ⟨ret_bool (by rw [ups_true k f n (fun j hj => unhide hd j (by omega))]), hq⟩

end Go.Proofs.Qxb6614662a
