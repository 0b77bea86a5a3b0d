import Derived.Test.Qxb6615102aOrder
namespace Go.Proofs.Qxb6615102a
open Go.RowKit
set_option linter.unusedVariables false

/-- A slice of ints that came in: it reads xs. -/
def SlI (w : World) (B : Nat) (v : Value) (xs : List Int) : Prop :=
  ∃ ao cap, v = .slice ao xs.length cap ∧ xs.length ≤ maxLen ∧ (ao = none → cap = 0) ∧ ∀ t, t < xs.length → ∃ b o, ao = some ⟨b, o, none⟩ ∧ b < B ∧ w.cell? ⟨b, o + t, none⟩ = some (.int .i64 (xs.getD t 0))
/-- A slice of such: N of them. -/
def LL (w : World) (ao : Option Addr) (N : Nat) (sv : Nat → Value) (E : Nat → List Int) : Prop :=
  N ≤ maxLen ∧ ∀ i, i < N → ∃ b off, ao = some ⟨b, off, none⟩ ∧ b < w.heap.size ∧ w.cell? ⟨b, off + i, none⟩ = some (sv i) ∧ SlI w w.heap.size (sv i) (E i)

def SomeBool (w : World) (e : Ending) (w' : World) : Prop := ∃ r : Bool, e = .returned (.bool r) ∧ w = w'
def sumI (E : Nat → List Int) (i : Nat) : Nat := ((List.range i).map fun a => (E a).length).sum
theorem sumI_succ (E : Nat → List Int) (i : Nat) : sumI E (i + 1) = sumI E i + (E i).length := by
  unfold sumI; rw [List.range_succ, List.map_append, List.sum_append]; simp
theorem sumI_zero (E : Nat → List Int) : sumI E 0 = 0 := rfl

set_option maxHeartbeats 1000000 in
theorem bytes5_any (m : Int) (ao : Option Addr) (N cap : Nat) (sv : Nat → Value) (E : Nat → List Int) (w : World) (h : LL w ao N sv E) :
    Calls Try.prog 5 #[.int .i64 m, .slice ao N cap] w fun e w' => SomeBool w e w' := by
  obtain ⟨hN, hr⟩ := h
  have HR := hide hr
  clear hr
  unfold maxLen at hN
  by_cases hb : (1048576 : Int) < (N : Int)
  · go_enter Try.func5, Try.ntmps5
    go_wp2
    go_ret
    exact ⟨_, rfl, rfl⟩
  · go_enter Try.func5, Try.ntmps5
    go_wp2
    go_loop [5, 6] (fun z i => ∃ k c : Nat, k ≤ N ∧ c ≤ 1048576 ∧ z = .int .i64 c ∧ i = .int .i64 k) (fun _ i => N - (intOf i).toNat)
    case atStart => exact ⟨0, N, Nat.zero_le _, by omega, rfl, rfl⟩
    case round =>
      obtain ⟨k, c, hk, hc, rfl, rfl⟩ := hrel
      by_cases hlt : k < N
      · have hlt2 : (k : Int) < (N : Int) := by omega
        obtain ⟨b, off, rfl, hbb, hce, ai, ci, hsv, hl, _, _⟩ := unhide HR k hlt
        rw [hsv] at hce
        unfold maxLen at hl
        clear hsv
        generalize (E k).length = s at *
        by_cases g1 : (1048576 : Int) < (s : Int)
        · go_wp2
          go_ret
          exact ⟨_, rfl, rfl⟩
        · by_cases g2 : (1048576 : Int) < (c : Int) + (s : Int)
          · go_wp2
            go_ret
            exact ⟨_, rfl, rfl⟩
          · go_wp2
            go_round
            case rel => exact ⟨k + 1, c + s, by omega, by omega, by go_num, by go_num⟩
            case measure => simp [intOf]; omega
      · have hge : ¬ (k : Int) < (N : Int) := by omega
        go_wp2
        all_goals (go_ret; exact ⟨_, rfl, rfl⟩)

set_option maxHeartbeats 1000000 in
theorem bytes11_any (m : Int) (ao : Option Addr) (N cap : Nat) (sv : Nat → Value) (E : Nat → List Int) (w : World) (h : LL w ao N sv E) :
    Calls Try.prog 11 #[.int .i64 m, .slice ao N cap] w fun e w' => SomeBool w e w' := by
  obtain ⟨hN, hr⟩ := h
  have HR := hide hr
  clear hr
  unfold maxLen at hN
  by_cases hb : (1048576 : Int) < (N : Int)
  · go_enter Try.func11, Try.ntmps11
    go_wp2
    go_ret
    exact ⟨_, rfl, rfl⟩
  · go_enter Try.func11, Try.ntmps11
    go_wp2
    go_loop [5, 6] (fun z i => ∃ k c : Nat, k ≤ N ∧ c ≤ 1048576 ∧ z = .int .i64 c ∧ i = .int .i64 k) (fun _ i => N - (intOf i).toNat)
    case atStart => exact ⟨0, N, Nat.zero_le _, by omega, rfl, rfl⟩
    case round =>
      obtain ⟨k, c, hk, hc, rfl, rfl⟩ := hrel
      by_cases hlt : k < N
      · have hlt2 : (k : Int) < (N : Int) := by omega
        obtain ⟨b, off, rfl, hbb, hce, ai, ci, hsv, hl, _, _⟩ := unhide HR k hlt
        rw [hsv] at hce
        unfold maxLen at hl
        clear hsv
        generalize (E k).length = s at *
        by_cases g1 : (1048576 : Int) < (s : Int)
        · go_wp2
          go_ret
          exact ⟨_, rfl, rfl⟩
        · by_cases g2 : (1048576 : Int) < (c : Int) + (s : Int)
          · go_wp2
            go_ret
            exact ⟨_, rfl, rfl⟩
          · go_wp2
            go_round
            case rel => exact ⟨k + 1, c + s, by omega, by omega, by go_num, by go_num⟩
            case measure => simp [intOf]; omega
      · have hge : ¬ (k : Int) < (N : Int) := by omega
        go_wp2
        all_goals (go_ret; exact ⟨_, rfl, rfl⟩)

/-- zzAdjTooBig: where it says no the lists are few and short. -/
def BigPost (N : Nat) (E : Nat → List Int) (w : World) (e : Ending) (w' : World) : Prop := ∃ r : Bool, e = .returned (.bool r) ∧ (r = false → N ≤ 65536 ∧ sumI E N ≤ 131072) ∧ w = w'

set_option maxHeartbeats 1000000 in
theorem big_any (ao : Option Addr) (N cap : Nat) (sv : Nat → Value) (E : Nat → List Int) (w : World) (h : LL w ao N sv E) :
    Calls Try.prog 6 #[.slice ao N cap] w fun e w' => BigPost N E w e w' := by
  obtain ⟨hN, hr⟩ := h
  have HR := hide hr
  clear hr
  unfold maxLen at hN
  by_cases hb : (65536 : Int) < (N : Int)
  · go_enter Try.func6, Try.ntmps6
    go_wp2
    go_ret
    exact ⟨true, rfl, by simp, rfl⟩
  · by_cases hb2 : (1048576 : Int) < 24 * (N : Int)
    · go_enter Try.func6, Try.ntmps6
      go_wp2
      go_ret
      exact ⟨true, rfl, by simp, rfl⟩
    · go_enter Try.func6, Try.ntmps6
      go_wp2
      go_loop [3, 4] (fun z i => ∃ k c : Nat, k ≤ N ∧ c ≤ 1048576 ∧ z = .int .i64 c ∧ i = .int .i64 k ∧ Hid (c = 24 * N + 8 * sumI E k)) (fun _ i => N - (intOf i).toNat)
      case atStart => exact ⟨0, 24 * N, Nat.zero_le _, by omega, by go_num, rfl, hide (by rw [sumI_zero]; omega)⟩
      case round =>
        obtain ⟨k, c, hk, hc, rfl, rfl, hsum⟩ := hrel
        by_cases hlt : k < N
        · have hlt2 : (k : Int) < (N : Int) := by omega
          obtain ⟨b, off, rfl, hbb, hce, ai, ci, hsv, hl, _, _⟩ := unhide HR k hlt
          rw [hsv] at hce
          unfold maxLen at hl
          clear hsv
          have hs1 := hide (sumI_succ E k)
          generalize (E k).length = s at *
          by_cases g1 : (1048576 : Int) < (s : Int)
          · go_wp2
            go_ret
            exact ⟨true, rfl, by simp, rfl⟩
          · by_cases g2 : (1048576 : Int) < (c : Int) + 8 * (s : Int)
            · go_wp2
              go_ret
              exact ⟨true, rfl, by simp, rfl⟩
            · go_wp2
              go_round
              case rel => exact ⟨k + 1, c + 8 * s, by omega, by omega, by go_num, by go_num, hide (by have := unhide hs1; have := unhide hsum; omega)⟩
              case measure => simp [intOf]; omega
        · have hge : ¬ (k : Int) < (N : Int) := by omega
          have ek : Hid (k = N) := hide (by omega)
          go_wp2
          go_ret
          exact ⟨false, rfl, fun _ => ⟨by omega, by have h1 := unhide hsum; have h2 := unhide ek; rw [h2] at h1; omega⟩, rfl⟩

/-- zzOrderDomain: where it says yes. -/
def DomPost (m : Int) (N : Nat) (E : Nat → List Int) (w : World) (e : Ending) (w' : World) : Prop :=
  ∃ r : Bool, e = .returned (.bool r) ∧ (r = true → 0 ≤ m ∧ m ≤ 65536 ∧ m ≤ (N : Int) ∧ ∀ i : Nat, (i : Int) < m → ∀ x, x ∈ E i → 0 ≤ x ∧ x < m) ∧ w = w'

theorem getDI_mem (P : List Int) (i : Nat) (h : i < P.length) : P.getD i 0 ∈ P := by
  rw [List.getD_eq_getElem?_getD, List.getElem?_eq_getElem h]; exact List.getElem_mem h
theorem mem_getDI (P : List Int) (x : Int) (h : x ∈ P) : ∃ i, i < P.length ∧ P.getD i 0 = x := by
  obtain ⟨i, hi, e⟩ := List.getElem_of_mem h
  exact ⟨i, hi, by rw [List.getD_eq_getElem?_getD, List.getElem?_eq_getElem hi]; exact e⟩

set_option maxHeartbeats 2000000 in
theorem dom_any (m : Int) (ao : Option Addr) (N cap : Nat) (sv : Nat → Value) (E : Nat → List Int) (w : World) (h : LL w ao N sv E) :
    Calls Try.prog 7 #[.int .i64 m, .slice ao N cap] w fun e w' => DomPost m N E w e w' := by
  obtain ⟨hN, hr⟩ := h
  have HR := hide hr
  clear hr
  unfold maxLen at hN
  by_cases h0 : m < 0
  · go_enter Try.func7, Try.ntmps7
    go_wp2
    go_ret
    exact ⟨false, rfl, by simp, rfl⟩
  · by_cases h1 : 65536 < m
    · go_enter Try.func7, Try.ntmps7
      go_wp2
      go_ret
      exact ⟨false, rfl, by simp, rfl⟩
    · by_cases h2 : (N : Int) < m
      · go_enter Try.func7, Try.ntmps7
        go_wp2
        go_ret
        exact ⟨false, rfl, by simp, rfl⟩
      · go_enter Try.func7, Try.ntmps7
        go_wp2
        go_loop [5] (fun i => ∃ k : Nat, (k : Int) ≤ m ∧ i = .int .i64 k ∧ Hid (∀ i : Nat, i < k → ∀ x, x ∈ E i → 0 ≤ x ∧ x < m)) (fun i => m.toNat - (intOf i).toNat)
        case atStart => exact ⟨0, by omega, rfl, hide (fun i hi => absurd hi (Nat.not_lt_zero i))⟩
        case round =>
          obtain ⟨k, hk, rfl, hd⟩ := hrel
          by_cases hlt : (k : Int) < m
          · have hlt2 : (k : Int) < (N : Int) := by omega
            obtain ⟨b, off, rfl, hbb, hce, ai, ci, hsv, hl, _, hcells⟩ := unhide HR k (by omega)
            rw [hsv] at hce
            unfold maxLen at hl
            have HCE := hide hcells
            clear hsv hcells
            go_wp2
            go_loop [30] (fun i => ∃ t : Nat, t ≤ (E k).length ∧ i = .int .i64 t ∧ Hid (∀ s, s < t → 0 ≤ (E k).getD s 0 ∧ (E k).getD s 0 < m)) (fun i => (E k).length - (intOf i).toNat)
            case atStart => exact ⟨0, Nat.zero_le _, rfl, hide (fun s hs => absurd hs (Nat.not_lt_zero s))⟩
            case round =>
              obtain ⟨t, ht, rfl, hdt⟩ := hrel
              by_cases htl : t < (E k).length
              · have htl2 : (t : Int) < ((E k).length : Int) := by omega
                obtain ⟨b', o', rfl, hb', hcx⟩ := unhide HCE t htl
                obtain ⟨x, hx⟩ : ∃ x, (E k).getD t 0 = x := ⟨_, rfl⟩
                rw [hx] at hcx
                have HX := hide hx
                clear hx
                by_cases g1 : x < 0
                · go_wp2
                  go_ret
                  exact ⟨false, rfl, by simp, rfl⟩
                · by_cases g2 : m ≤ x
                  · go_wp2
                    go_ret
                    exact ⟨false, rfl, by simp, rfl⟩
                  · go_wp2
                    go_round
                    case rel =>
                      refine ⟨t + 1, by omega, by go_num, hide (fun s hs => ?_)⟩
                      rcases Nat.lt_or_ge s t with h' | h'
                      · exact unhide hdt s h'
                      · have : s = t := by omega
                        subst this
                        rw [unhide HX]
                        omega
                    case measure => simp [intOf]; omega
              · have htl2 : ¬ (t : Int) < ((E k).length : Int) := by omega
                have HE : Hid (∀ x, x ∈ E k → 0 ≤ x ∧ x < m) := hide (fun x hx => by
                  obtain ⟨s, hs, rfl⟩ := mem_getDI (E k) x hx
                  exact unhide hdt s (by omega))
                clear hdt
                go_wp2
                go_round
                case rel =>
                  refine ⟨k + 1, by omega, by go_num, hide (fun i hi => ?_)⟩
                  rcases Nat.lt_or_ge i k with h' | h'
                  · exact unhide hd i h'
                  · have : i = k := by omega
                    subst this
                    exact unhide HE
                case measure => simp [intOf]; omega
          · have hge : ¬ (k : Int) < m := by omega
            go_wp2
            go_ret
            exact ⟨true, rfl, fun _ => ⟨by omega, by omega, by omega, fun i hi => unhide hd i (by omega)⟩, rfl⟩

set_option maxHeartbeats 1000000 in
/-- ZZOrderLists. -/
theorem lists_any (n : Nat) (ao : Option Addr) (N cap : Nat) (sv : Nat → Value) (D : Nat → List Nat) (w : World) (hn : n ≤ 65537)
    (hr : RowsV w w.heap.size (.slice ao N cap) n sv D) (hlt : ∀ i, i < n → ∀ j, j ∈ D i → j < n) (hs : sumLen D n ≤ 1000000) :
    Calls Try.prog 8 #[.int .i64 n, .slice ao N cap] w fun e w' => OrdPost n D w e w' := by
  have hsz : (w.alloc (.cells #[.slice ao N cap] 22)).heap.size = w.heap.size + 1 := by show (w.heap.push _).size = _; simp
  have hB : Below w.heap.size w (w.alloc (.cells #[.slice ao N cap] 22)) := (Below.refl _ _).alloc (Nat.le_refl _) _
  have C := hide (order_any n w.heap.size (.slice ao N cap) sv D (w.alloc (.cells #[.slice ao N cap] 22)) hn (by rw [hsz]; omega) (by simp [go_sem]) (by
    rw [hsz]; exact (hr.below hB (Nat.le_refl _)).mono (by omega)) hlt hs)
  clear hr hlt
  go_enter Try.func8, Try.ntmps8
  go_wp2_with fail
  refine (unhide C).mono ?_
  rintro e w1 ⟨O, P, rfl, hd, hO, hown, hb1⟩
  have HD := hide hd
  have HOW := hide hown
  have HB := hide hb1
  clear hd hown hb1
  go_wp2_with fail
  go_ret
  exact ⟨O, P, rfl, unhide HD, by rw [hsz] at hO; omega, unhide HOW, hB.trans ((unhide HB).mono (by rw [hsz]; omega))⟩

end Go.Proofs.Qxb6615102a
