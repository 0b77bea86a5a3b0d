import Derived.Test.Qxb6614662aTexts
namespace Go.Proofs.Qxb6614662a
open Go.RowKit
set_option linter.unusedVariables false

theorem kc_raw_bytes (k : Int) (hk : (k == 0) = false) (a b : ByteArray) : (Pl.kcmp k a.data.toList b.data.toList == 0) = (b.toList == a.toList) := by
  rw [kc_zero_eq k (by simpa using hk), beq_lists]
  exact Bool.beq_comm

set_option maxHeartbeats 1000000 in
/-- slices.Index. -/
theorem index_any (k : Int) (hk : (k == 0) = false) (b off n cap : Nat) (f : Nat → ByteArray) (x : ByteArray) (w : World) (hn : n ≤ 65537) (ht : Txt w b off n f) :
    Calls Try.prog 49 #[.slice (some ⟨b, off, none⟩) n cap, .string x] w fun e w' => ∃ r : Int, e = .returned (.int .i64 r) ∧ decide (0 ≤ r) = Pl.hit k (tx f n) x.data.toList ∧ w' = w := by
  have HK := hide hk
  clear hk
  go_enter Try.func49, Try.ntmps49
  go_wp2
  go_loop [8] (fun i => ∃ m : Nat, m ≤ n ∧ i = .int .i64 m ∧ Hid (∀ j, j < m → (Pl.kcmp k (f j).data.toList x.data.toList == 0) = false)) (fun i => n - (intOf i).toNat)
  case atStart => exact ⟨0, Nat.zero_le _, rfl, hide (fun j hj => absurd hj (Nat.not_lt_zero j))⟩
  case round =>
    obtain ⟨i, hi, rfl, hd⟩ := hrel
    by_cases hlt : i < n
    · have hlt2 : (i : Int) < (n : Int) := by omega
      have hci := (ht i hlt).1
      have hx := hide (kc_raw_bytes k HK (f i) x)
      cases hr : (x.toList == (f i).toList)
      · go_wp2
        go_round
        case rel =>
          refine ⟨i + 1, by omega, by go_num, hide (fun j hj => ?_)⟩
          rcases Nat.lt_or_ge j i with h | h
          · exact unhide hd j h
          · have : j = i := by omega
            subst this
            rw [unhide hx, hr]
        case measure => simp [intOf]; omega
      · go_wp2
        go_ret
        exact ⟨_, rfl, by unfold Pl.hit; rw [any_true f n _ i hlt (by rw [unhide hx, hr])]; simp, rfl⟩
    · have hge : ¬ (i : Int) < (n : Int) := by omega
      have e : i = n := by omega
      subst e
      go_wp2
      go_ret
      exact ⟨_, rfl, by unfold Pl.hit; rw [any_false f i _ (unhide hd)]; rfl, rfl⟩

set_option maxHeartbeats 400000 in
theorem contains_any (k : Int) (hk : (k == 0) = false) (b off n cap : Nat) (f : Nat → ByteArray) (x : ByteArray) (w : World) (hn : n ≤ 65537) (ht : Txt w b off n f) :
    Calls Try.prog 40 #[.slice (some ⟨b, off, none⟩) n cap, .string x] w fun e w' => e = .returned (.bool (Pl.hit k (tx f n) x.data.toList)) ∧ w' = w := by
  go_enter Try.func40, Try.ntmps40
  go_wp2_with fail
  refine (index_any k hk b off n cap f x _ hn ht).mono ?_
  rintro e w' ⟨r, rfl, hr, rfl⟩
  have HR := hide hr
  clear hr
  go_wp2_with fail
  go_ret
  exact ⟨ret_bool (unhide HR), rfl⟩

/-- The place that the search hands back: how many lie below x. -/
def cutAt (k : Int) (f : Nat → ByteArray) (n : Nat) (x : ByteArray) : Nat := ((List.range n).filter fun t => decide (Pl.kcmp k (f t).data.toList x.data.toList < 0)).length
theorem cut_count (p : Nat → Bool) : ∀ (n lo : Nat), lo ≤ n → (∀ t, t < lo → p t = true) → (∀ t, lo ≤ t → t < n → p t = false) → ((List.range n).filter p).length = lo
  | 0, lo, h, _, _ => by simp; omega
  | n + 1, lo, h, h1, h2 => by
    rw [List.range_succ, List.filter_append, List.length_append]
    rcases Nat.lt_or_ge n lo with h3 | h3
    · have e : lo = n + 1 := by omega
      rw [cut_count p n n (Nat.le_refl _) (fun t ht => h1 t (by omega)) (fun t ht ht' => absurd ht' (by omega))]
      simp [h1 n h3, e]
    · rw [cut_count p n lo h3 h1 (fun t ht ht' => h2 t ht (by omega))]
      simp [h2 n h3 (by omega)]
theorem cutAt_eq (k : Int) (f : Nat → ByteArray) (n : Nat) (x : ByteArray) (lo : Nat) (h : lo ≤ n) (h1 : ∀ t, t < lo → Pl.kcmp k (f t).data.toList x.data.toList < 0) (h2 : ∀ t, lo ≤ t → t < n → 0 ≤ Pl.kcmp k (f t).data.toList x.data.toList) :
    cutAt k f n x = lo :=
  cut_count _ n lo h (fun t ht => by simpa using h1 t ht) (fun t ht ht' => by simpa using h2 t ht ht')
theorem tuple_bool {i j : Int} {a b : Bool} (h : i = j) (h' : a = b) : Ending.returned (.tuple #[.int .i64 i, .bool a]) = .returned (.tuple #[.int .i64 j, .bool b]) := by rw [h, h']

set_option maxHeartbeats 1000000 in
/-- slices.BinarySearchFunc, by (valueKind).compare. -/
theorem search_any (k : Int) (b off n cap : Nat) (f : Nat → ByteArray) (x : ByteArray) (w : World) (hn : n ≤ 65537) (hx : x.size ≤ maxLen) (ht : Txt w b off n f) (hu : Pl.Up k (tx f n)) :
    Calls Try.prog 38 #[.slice (some ⟨b, off, none⟩) n cap, .string x, .func (.func 39) #[.int .u8 k] #[]] w fun e w' => e = .returned (.tuple #[.int .i64 (cutAt k f n x), .bool (Pl.hit k (tx f n) x.data.toList)]) ∧ ∃ q, w' = w.drewN q := by
  have HU := hide hu
  clear hu
  go_enter Try.func38, Try.ntmps38
  go_wp2
  go_loopw [9, 10] (fun i j wr => ∃ lo hi : Nat, lo ≤ hi ∧ hi ≤ n ∧ i = .int .i64 lo ∧ j = .int .i64 hi ∧ Hid (∃ q, wr = w.drewN q) ∧
      Hid ((∀ t, t < lo → Pl.kcmp k (f t).data.toList x.data.toList < 0) ∧ (∀ t, hi ≤ t → t < n → 0 ≤ Pl.kcmp k (f t).data.toList x.data.toList)))
    (fun i j _ => (intOf j).toNat - (intOf i).toNat)
  case atStart => exact ⟨0, n, Nat.zero_le _, Nat.le_refl _, rfl, rfl, ⟨0, rfl⟩, hide ⟨fun t h => absurd h (Nat.not_lt_zero t), fun t h h' => absurd h' (by omega)⟩⟩
  case round =>
    obtain ⟨lo, hi, hlh, hhn, rfl, rfl, hq, hd⟩ := hrel
    have ht' := ht.drawn hq
    by_cases hlt : lo < hi
    · have hlt2 : (lo : Int) < (hi : Int) := by omega
      have hci := (ht' ((lo + hi) / 2) (by omega)).1
      have C := hide (fun w => compare_any k (f ((lo + hi) / 2)) x w (ht ((lo + hi) / 2) (by omega)).2 hx)
      clear ht'
      by_cases hc : Pl.kcmp k (f ((lo + hi) / 2)).data.toList x.data.toList < 0
      · have HC := hide hc
        go_wp2_with fail
        refine (unhide C _).mono ?_
        rintro e w1 ⟨rfl, q, rfl⟩
        go_wp2_with fail
        go_roundw
        case rel =>
          refine ⟨(lo + hi) / 2 + 1, hi, by omega, hhn, by go_num, rfl, drawn_more hq _, hide ⟨fun t h => ?_, (unhide hd).2⟩⟩
          rcases Nat.lt_or_ge t ((lo + hi) / 2) with h' | h'
          · have := HU t ((lo + hi) / 2) h' (by rw [tx_len]; omega)
            rw [tx_at f n _ (by omega), tx_at f n _ (by omega)] at this
            exact Pl.kcmp_trans k _ _ _ this (by have := unhide HC; omega)
          · have : t = (lo + hi) / 2 := by omega
            subst this
            exact unhide HC
        case measure => simp [intOf]; omega
      · have HC := hide hc
        go_wp2_with fail
        refine (unhide C _).mono ?_
        rintro e w1 ⟨rfl, q, rfl⟩
        go_wp2_with fail
        go_roundw
        case rel =>
          refine ⟨lo, (lo + hi) / 2, by omega, by omega, rfl, by go_num, drawn_more hq _, hide ⟨(unhide hd).1, fun t h h' => ?_⟩⟩
          refine Int.not_lt.1 fun h3 => ?_
          rcases Nat.lt_or_ge ((lo + hi) / 2) t with h4 | h4
          · have := HU ((lo + hi) / 2) t h4 (by rw [tx_len]; omega)
            rw [tx_at f n _ (by omega), tx_at f n _ (by omega)] at this
            have h5 := Pl.kcmp_trans k _ _ x.data.toList this (by omega); have := unhide HC; omega
          · have : t = (lo + hi) / 2 := by omega
            subst this
            have := unhide HC; omega
        case measure => simp [intOf]; omega
    · have hge : ¬ (lo : Int) < (hi : Int) := by omega
      have e : lo = hi := by omega
      subst e
      have hh := hide (Pl.hit_at k (tx f n) x.data.toList lo HU (fun i h h' => by rw [tx_len] at h'; rw [tx_at f n i h']; exact (unhide hd).1 i h) (fun i h h' => by rw [tx_len] at h'; rw [tx_at f n i h']; exact Int.not_lt.2 ((unhide hd).2 i h h')))
      rw [tx_len] at hh
      have hcut := hide (cutAt_eq k f n x lo hhn (unhide hd).1 (unhide hd).2)
      by_cases hl : lo < n
      · have hl2 : (lo : Int) < (n : Int) := by omega
        have hci := (ht' lo hl).1
        have C := hide (fun w => compare_any k (f lo) x w (ht lo hl).2 hx)
        rw [tx_at f n lo hl] at hh
        clear ht'
        go_wp2_with fail
        refine (unhide C _).mono ?_
        rintro e w1 ⟨rfl, q, rfl⟩
        go_wp2_with fail
        go_ret2
        exact ⟨tuple_bool (by rw [unhide hcut]) (by rw [unhide hh]; simp [hl]), drawn_more hq _⟩
      · have hl2 : ¬ (lo : Int) < (n : Int) := by omega
        clear ht'
        go_wp2_with fail
        go_ret2
        exact ⟨tuple_bool (by rw [unhide hcut]) (by rw [unhide hh]; simp [hl]), hq⟩

end Go.Proofs.Qxb6614662a
