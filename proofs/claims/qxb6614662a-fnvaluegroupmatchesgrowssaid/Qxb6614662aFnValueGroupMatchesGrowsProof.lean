import Derived.Test.Qxb6614662aRows
import Derived.Test.Qxb6614662aGrows
import Derived.WalkKit
import Derived.ProofKit
import Derived.OpenShut
import Derived.ShutString
import Derived.ChangeOld
import Derived.Below
import Derived.SliceStrings
namespace Go.Proofs.Qxb6614662a.fnValueGroupMatchesGrows
open Go.ChangeShapes Go.WideShapes Go.ChangeAt Go.RowKit
open Go.ChangeMaps (open_string shut_string)
set_option linter.unusedVariables false

theorem own : ownKnob Try.prog.godebug = none := by kernel_rfl
theorem laidOut : laidOutB Try.prog = true := by kernel_rfl

set_option maxHeartbeats 1000000 in
theorem big_n (gn : Bool) (gk : Int) (b off n cap : Nat) (f : Nat → ByteArray) (p : Int) (t x : ByteArray) (wk : Int) (wn : Bool) (w : World) (h1 : t.size ≤ maxLen) (h2 : x.size ≤ maxLen) (hn : n ≤ maxLen) (ht : Txt w b off n f) (c1 : 65536 < n) :
    Calls Try.prog 6 #[.bool gn, .int .u8 gk, .slice (some ⟨b, off, none⟩) n cap, .int .i64 p, .string t, .string x, .int .u8 wk, .bool wn] w fun e w' => e = .returned (.bool true) ∧ Below w.heap.size w w' := by
  have k0 : (65536 : Int) < (n : Int) := by omega
  go_enter Try.func6, Try.ntmps6
  go_wp2_with fail
  refine (bytes18_some gn gk b off n cap f p t x wk wn _ h1 h2 hn ht).mono ?_
  rintro e w' ⟨r, rfl, rfl⟩
  cases r
  · go_wp2
    go_ret
    exact ⟨rfl, Below.refl _ _⟩
  · go_wp2
    go_ret
    exact ⟨rfl, Below.refl _ _⟩

set_option maxHeartbeats 1000000 in
theorem big_t (gn : Bool) (gk : Int) (b off n cap : Nat) (f : Nat → ByteArray) (p : Int) (t x : ByteArray) (wk : Int) (wn : Bool) (w : World) (h1 : t.size ≤ maxLen) (h2 : x.size ≤ maxLen) (hn : n ≤ maxLen) (ht : Txt w b off n f) (c1 : n ≤ 65536) (c2 : 65536 < t.size) :
    Calls Try.prog 6 #[.bool gn, .int .u8 gk, .slice (some ⟨b, off, none⟩) n cap, .int .i64 p, .string t, .string x, .int .u8 wk, .bool wn] w fun e w' => e = .returned (.bool true) ∧ Below w.heap.size w w' := by
  have k0 : (n : Int) ≤ 65536 := by omega
  have k1 : (65536 : Int) < (t.size : Int) := by omega
  go_enter Try.func6, Try.ntmps6
  go_wp2_with fail
  refine (bytes18_some gn gk b off n cap f p t x wk wn _ h1 h2 hn ht).mono ?_
  rintro e w' ⟨r, rfl, rfl⟩
  cases r
  · go_wp2
    go_ret
    exact ⟨rfl, Below.refl _ _⟩
  · go_wp2
    go_ret
    exact ⟨rfl, Below.refl _ _⟩

set_option maxHeartbeats 1000000 in
theorem big_x (gn : Bool) (gk : Int) (b off n cap : Nat) (f : Nat → ByteArray) (p : Int) (t x : ByteArray) (wk : Int) (wn : Bool) (w : World) (h1 : t.size ≤ maxLen) (h2 : x.size ≤ maxLen) (hn : n ≤ maxLen) (ht : Txt w b off n f) (c1 : n ≤ 65536) (c2 : t.size ≤ 65536) (c3 : 65536 < x.size) :
    Calls Try.prog 6 #[.bool gn, .int .u8 gk, .slice (some ⟨b, off, none⟩) n cap, .int .i64 p, .string t, .string x, .int .u8 wk, .bool wn] w fun e w' => e = .returned (.bool true) ∧ Below w.heap.size w w' := by
  have k0 : (n : Int) ≤ 65536 := by omega
  have k1 : (t.size : Int) ≤ 65536 := by omega
  have k2 : (65536 : Int) < (x.size : Int) := by omega
  go_enter Try.func6, Try.ntmps6
  go_wp2_with fail
  refine (bytes18_some gn gk b off n cap f p t x wk wn _ h1 h2 hn ht).mono ?_
  rintro e w' ⟨r, rfl, rfl⟩
  cases r
  · go_wp2
    go_ret
    exact ⟨rfl, Below.refl _ _⟩
  · go_wp2
    go_ret
    exact ⟨rfl, Below.refl _ _⟩

set_option maxHeartbeats 1000000 in
theorem bad_gk (gn : Bool) (gk : Int) (b off n cap : Nat) (f : Nat → ByteArray) (p : Int) (t x : ByteArray) (wk : Int) (wn : Bool) (w : World) (h1 : t.size ≤ maxLen) (h2 : x.size ≤ maxLen) (hn : n ≤ maxLen) (ht : Txt w b off n f) (c1 : n ≤ 65536) (c2 : t.size ≤ 65536) (c3 : x.size ≤ 65536) (c4 : 1 < gk) :
    Calls Try.prog 6 #[.bool gn, .int .u8 gk, .slice (some ⟨b, off, none⟩) n cap, .int .i64 p, .string t, .string x, .int .u8 wk, .bool wn] w fun e w' => e = .returned (.bool true) ∧ Below w.heap.size w w' := by
  have k0 : (n : Int) ≤ 65536 := by omega
  have k1 : (t.size : Int) ≤ 65536 := by omega
  have k2 : (x.size : Int) ≤ 65536 := by omega
  go_enter Try.func6, Try.ntmps6
  go_wp2_with fail
  refine (bytes18_some gn gk b off n cap f p t x wk wn _ h1 h2 hn ht).mono ?_
  rintro e w' ⟨r, rfl, rfl⟩
  cases r
  · go_wp2
    go_ret
    exact ⟨rfl, Below.refl _ _⟩
  go_wp2_with fail
  refine (texts14_some b off n cap f _ _ hn ht).mono ?_
  rintro e w' ⟨r, rfl, rfl⟩
  by_cases hr : (1048576 : Int) < r
  · go_wp2
    go_ret
    exact ⟨rfl, Below.refl _ _⟩
  · go_wp2
    go_ret
    exact ⟨rfl, Below.refl _ _⟩

set_option maxHeartbeats 1000000 in
theorem bad_wk (gn : Bool) (gk : Int) (b off n cap : Nat) (f : Nat → ByteArray) (p : Int) (t x : ByteArray) (wk : Int) (wn : Bool) (w : World) (h1 : t.size ≤ maxLen) (h2 : x.size ≤ maxLen) (hn : n ≤ maxLen) (ht : Txt w b off n f) (c1 : n ≤ 65536) (c2 : t.size ≤ 65536) (c3 : x.size ≤ 65536) (c4 : gk ≤ 1) (c5 : 2 < wk) :
    Calls Try.prog 6 #[.bool gn, .int .u8 gk, .slice (some ⟨b, off, none⟩) n cap, .int .i64 p, .string t, .string x, .int .u8 wk, .bool wn] w fun e w' => e = .returned (.bool true) ∧ Below w.heap.size w w' := by
  have k0 : (n : Int) ≤ 65536 := by omega
  have k1 : (t.size : Int) ≤ 65536 := by omega
  have k2 : (x.size : Int) ≤ 65536 := by omega
  go_enter Try.func6, Try.ntmps6
  go_wp2_with fail
  refine (bytes18_some gn gk b off n cap f p t x wk wn _ h1 h2 hn ht).mono ?_
  rintro e w' ⟨r, rfl, rfl⟩
  cases r
  · go_wp2
    go_ret
    exact ⟨rfl, Below.refl _ _⟩
  go_wp2_with fail
  refine (texts14_some b off n cap f _ _ hn ht).mono ?_
  rintro e w' ⟨r, rfl, rfl⟩
  by_cases hr : (1048576 : Int) < r
  · go_wp2
    go_ret
    exact ⟨rfl, Below.refl _ _⟩
  · go_wp2
    go_ret
    exact ⟨rfl, Below.refl _ _⟩

set_option maxHeartbeats 1000000 in
theorem bad_lo (gn : Bool) (gk : Int) (b off n cap : Nat) (f : Nat → ByteArray) (p : Int) (t x : ByteArray) (wk : Int) (wn : Bool) (w : World) (h1 : t.size ≤ maxLen) (h2 : x.size ≤ maxLen) (hn : n ≤ maxLen) (ht : Txt w b off n f) (c1 : n ≤ 65536) (c2 : t.size ≤ 65536) (c3 : x.size ≤ 65536) (c4 : gk ≤ 1) (c5 : wk ≤ 2) (c6 : p < 0) :
    Calls Try.prog 6 #[.bool gn, .int .u8 gk, .slice (some ⟨b, off, none⟩) n cap, .int .i64 p, .string t, .string x, .int .u8 wk, .bool wn] w fun e w' => e = .returned (.bool true) ∧ Below w.heap.size w w' := by
  have k0 : (n : Int) ≤ 65536 := by omega
  have k1 : (t.size : Int) ≤ 65536 := by omega
  have k2 : (x.size : Int) ≤ 65536 := by omega
  go_enter Try.func6, Try.ntmps6
  go_wp2_with fail
  refine (bytes18_some gn gk b off n cap f p t x wk wn _ h1 h2 hn ht).mono ?_
  rintro e w' ⟨r, rfl, rfl⟩
  cases r
  · go_wp2
    go_ret
    exact ⟨rfl, Below.refl _ _⟩
  go_wp2_with fail
  refine (texts14_some b off n cap f _ _ hn ht).mono ?_
  rintro e w' ⟨r, rfl, rfl⟩
  by_cases hr : (1048576 : Int) < r
  · go_wp2
    go_ret
    exact ⟨rfl, Below.refl _ _⟩
  · go_wp2
    go_ret
    exact ⟨rfl, Below.refl _ _⟩

set_option maxHeartbeats 1000000 in
theorem bad_hi (gn : Bool) (gk : Int) (b off n cap : Nat) (f : Nat → ByteArray) (p : Int) (t x : ByteArray) (wk : Int) (wn : Bool) (w : World) (h1 : t.size ≤ maxLen) (h2 : x.size ≤ maxLen) (hn : n ≤ maxLen) (ht : Txt w b off n f) (c1 : n ≤ 65536) (c2 : t.size ≤ 65536) (c3 : x.size ≤ 65536) (c4 : gk ≤ 1) (c5 : wk ≤ 2) (c6 : 0 ≤ p) (c7 : (n : Int) < p) :
    Calls Try.prog 6 #[.bool gn, .int .u8 gk, .slice (some ⟨b, off, none⟩) n cap, .int .i64 p, .string t, .string x, .int .u8 wk, .bool wn] w fun e w' => e = .returned (.bool true) ∧ Below w.heap.size w w' := by
  have k0 : (n : Int) ≤ 65536 := by omega
  have k1 : (t.size : Int) ≤ 65536 := by omega
  have k2 : (x.size : Int) ≤ 65536 := by omega
  go_enter Try.func6, Try.ntmps6
  go_wp2_with fail
  refine (bytes18_some gn gk b off n cap f p t x wk wn _ h1 h2 hn ht).mono ?_
  rintro e w' ⟨r, rfl, rfl⟩
  cases r
  · go_wp2
    go_ret
    exact ⟨rfl, Below.refl _ _⟩
  go_wp2_with fail
  refine (texts14_some b off n cap f _ _ hn ht).mono ?_
  rintro e w' ⟨r, rfl, rfl⟩
  by_cases hr : (1048576 : Int) < r
  · go_wp2
    go_ret
    exact ⟨rfl, Below.refl _ _⟩
  · go_wp2
    go_ret
    exact ⟨rfl, Below.refl _ _⟩

set_option maxHeartbeats 1000000 in
theorem none_t (gn : Bool) (gk : Int) (ao : Option Addr) (cap : Nat) (p : Int) (t x : ByteArray) (wk : Int) (wn : Bool) (w : World) (h1 : t.size ≤ maxLen) (h2 : x.size ≤ maxLen) (c2 : 65536 < t.size) :
    Calls Try.prog 6 #[.bool gn, .int .u8 gk, .slice ao 0 cap, .int .i64 p, .string t, .string x, .int .u8 wk, .bool wn] w fun e w' => e = .returned (.bool true) ∧ Below w.heap.size w w' := by
  have k0 : (65536 : Int) < (t.size : Int) := by omega
  go_enter Try.func6, Try.ntmps6
  go_wp2_with fail
  refine (bytes18_none gn gk ao cap p t x wk wn _ h1 h2).mono ?_
  rintro e w' ⟨r, rfl, rfl⟩
  cases r
  · go_wp2
    go_ret
    exact ⟨rfl, Below.refl _ _⟩
  · go_wp2
    go_ret
    exact ⟨rfl, Below.refl _ _⟩

set_option maxHeartbeats 1000000 in
theorem none_x (gn : Bool) (gk : Int) (ao : Option Addr) (cap : Nat) (p : Int) (t x : ByteArray) (wk : Int) (wn : Bool) (w : World) (h1 : t.size ≤ maxLen) (h2 : x.size ≤ maxLen) (c2 : t.size ≤ 65536) (c3 : 65536 < x.size) :
    Calls Try.prog 6 #[.bool gn, .int .u8 gk, .slice ao 0 cap, .int .i64 p, .string t, .string x, .int .u8 wk, .bool wn] w fun e w' => e = .returned (.bool true) ∧ Below w.heap.size w w' := by
  have k0 : (t.size : Int) ≤ 65536 := by omega
  have k1 : (65536 : Int) < (x.size : Int) := by omega
  go_enter Try.func6, Try.ntmps6
  go_wp2_with fail
  refine (bytes18_none gn gk ao cap p t x wk wn _ h1 h2).mono ?_
  rintro e w' ⟨r, rfl, rfl⟩
  cases r
  · go_wp2
    go_ret
    exact ⟨rfl, Below.refl _ _⟩
  · go_wp2
    go_ret
    exact ⟨rfl, Below.refl _ _⟩

set_option maxHeartbeats 1000000 in
theorem none_rest (gn : Bool) (gk : Int) (ao : Option Addr) (cap : Nat) (p : Int) (t x : ByteArray) (wk : Int) (wn : Bool) (w : World) (h1 : t.size ≤ maxLen) (h2 : x.size ≤ maxLen) (c2 : t.size ≤ 65536) (c3 : x.size ≤ 65536) :
    Calls Try.prog 6 #[.bool gn, .int .u8 gk, .slice ao 0 cap, .int .i64 p, .string t, .string x, .int .u8 wk, .bool wn] w fun e w' => e = .returned (.bool true) ∧ Below w.heap.size w w' := by
  have k1 : (t.size : Int) ≤ 65536 := by omega
  have k2 : (x.size : Int) ≤ 65536 := by omega
  go_enter Try.func6, Try.ntmps6
  go_wp2_with fail
  refine (bytes18_none gn gk ao cap p t x wk wn _ h1 h2).mono ?_
  rintro e w' ⟨r, rfl, rfl⟩
  cases r
  · go_wp2
    go_ret
    exact ⟨rfl, Below.refl _ _⟩
  go_wp2_with fail
  refine (texts14_none ao cap _ _).mono ?_
  rintro e w' ⟨r, rfl, rfl⟩
  by_cases hr : (1048576 : Int) < r
  · go_wp2
    go_ret
    exact ⟨rfl, Below.refl _ _⟩
  · go_wp2
    all_goals (go_ret; exact ⟨rfl, Below.refl _ _⟩)

theorem walk_none (gn : Bool) (gk : Int) (ao : Option Addr) (cap : Nat) (p : Int) (t x : ByteArray) (wk : Int) (wn : Bool) (w : World) (h1 : t.size ≤ maxLen) (h2 : x.size ≤ maxLen) :
    Calls Try.prog 6 #[.bool gn, .int .u8 gk, .slice ao 0 cap, .int .i64 p, .string t, .string x, .int .u8 wk, .bool wn] w fun e w' => e = .returned (.bool true) ∧ Below w.heap.size w w' := by
  by_cases c2 : t.size ≤ 65536
  · by_cases c3 : x.size ≤ 65536
    · exact none_rest gn gk ao cap p t x wk wn w h1 h2 c2 c3
    · exact none_x gn gk ao cap p t x wk wn w h1 h2 c2 (by omega)
  · exact none_t gn gk ao cap p t x wk wn w h1 h2 (by omega)

theorem walk_some (gn : Bool) (gk : Int) (b off n cap : Nat) (f : Nat → ByteArray) (p : Int) (t x : ByteArray) (wk : Int) (wn : Bool) (w : World) (h1 : t.size ≤ maxLen) (h2 : x.size ≤ maxLen) (hn : n ≤ maxLen) (ht : Txt w b off n f) (h0 : 0 < n) (hb : b < w.heap.size) (g0 : 0 ≤ gk) (g1 : 0 ≤ wk) :
    Calls Try.prog 6 #[.bool gn, .int .u8 gk, .slice (some ⟨b, off, none⟩) n cap, .int .i64 p, .string t, .string x, .int .u8 wk, .bool wn] w fun e w' => e = .returned (.bool true) ∧ Below w.heap.size w w' := by
  by_cases c1 : n ≤ 65536
  · by_cases c2 : t.size ≤ 65536
    · by_cases c3 : x.size ≤ 65536
      · by_cases c4 : gk ≤ 1
        · by_cases c5 : wk ≤ 2
          · by_cases c6 : 0 ≤ p
            · by_cases c7 : p ≤ (n : Int)
              · obtain ⟨m, rfl⟩ := Int.eq_ofNat_of_zero_le c6
                exact grows_main gn gk b off n cap f m t x wk wn w c1 h0 c2 c3 (by omega) g1 c5 (by omega) ht hb
              · exact bad_hi gn gk b off n cap f p t x wk wn w h1 h2 hn ht c1 c2 c3 c4 c5 c6 (by omega)
            · exact bad_lo gn gk b off n cap f p t x wk wn w h1 h2 hn ht c1 c2 c3 c4 c5 (by omega)
          · exact bad_wk gn gk b off n cap f p t x wk wn w h1 h2 hn ht c1 c2 c3 c4 (by omega)
        · exact bad_gk gn gk b off n cap f p t x wk wn w h1 h2 hn ht c1 c2 c3 (by omega)
      · exact big_x gn gk b off n cap f p t x wk wn w h1 h2 hn ht c1 c2 (by omega)
    · exact big_t gn gk b off n cap f p t x wk wn w h1 h2 hn ht c1 (by omega)
  · exact big_n gn gk b off n cap f p t x wk wn w h1 h2 hn ht (by omega)

/-- WHAT THE WALK IS TOLD OF A SLICE OF STRINGS THAT CAME IN. -/
def IsStrs (w : World) (a : Option Addr) (len cap : Nat) (ss : List ByteArray) : Prop :=
  (a = none ∧ len = 0 ∧ cap = 0) ∨
  ∃ y, a = some y ∧ len ≤ cap ∧ cap ≤ maxLen ∧ ss.length = cap ∧ (∀ i, i < ss.length → w.cell? (y.add i) = some (.string (ss.getD i ByteArray.empty))) ∧ ∀ s ∈ ss, s.size ≤ maxLen

theorem strs_at {w : World} {a : Addr} {ss : List ByteArray} (h : ∀ i, i < ss.length → w.cell? (a.add i) = some (.string (ss.getD i ByteArray.empty))) (hp : 0 < ss.length) :
    ∃ b off, a = ⟨b, off, none⟩ ∧ b < w.heap.size ∧ ∀ j, j < ss.length → w.cell? ⟨b, off + j, none⟩ = some (.string (ss.getD j ByteArray.empty)) := by
  obtain ⟨b, off, spot⟩ := a
  have hspot : spot = none := by simpa [Addr.add] using World.cell?_spot (h 0 hp)
  subst hspot
  exact ⟨b, off, rfl, World.block_lt_of_cell? w _ (h 0 hp), fun j hj => by rw [← Go.WideShapes.add_plain]; exact h j hj⟩

theorem walk (gn : Bool) (gk : Int) (a : Option Addr) (len cap : Nat) (ss : List ByteArray) (p : Int) (t x : ByteArray) (wk : Int) (wn : Bool) (w : World) (g0 : (Lit.int .u8 gk).wf = true) (w2 : IsStrs w a len cap ss) (h1 : t.size ≤ maxLen) (h2 : x.size ≤ maxLen) (g1 : (Lit.int .u8 wk).wf = true) :
    Calls Try.prog 6 #[.bool gn, .int .u8 gk, .slice a len cap, .int .i64 p, .string t, .string x, .int .u8 wk, .bool wn] w fun e w' => e = .returned (.bool true) ∧ Below w.heap.size w w' := by
  rcases Nat.eq_zero_or_pos len with rfl | hpos
  · exact walk_none gn gk a cap p t x wk wn w h1 h2
  · rcases w2 with ⟨_, rfl, _⟩ | ⟨y, rfl, hl, hm, hs, hc, hsz⟩
    · exact absurd hpos (Nat.lt_irrefl 0)
    · obtain ⟨b, off, rfl, hb, hcells⟩ := strs_at hc (by omega)
      refine walk_some gn gk b off len cap (fun i => ss.getD i ByteArray.empty) p t x wk wn w h1 h2 (by omega) (fun i hi => ⟨hcells i (by omega), ?_⟩) hpos hb (bounds_u8 g0).1 (bounds_u8 g1).1
      have e : ss.getD i ByteArray.empty = ss[i]'(by omega) := by rw [List.getD_eq_getElem?_getD, List.getElem?_eq_getElem (by omega)]; rfl
      show (ss.getD i ByteArray.empty).size ≤ maxLen
      rw [e]
      exact hsz _ (List.getElem_mem _)

/-! ### THE ROW's STEP -/
set_option maxRecDepth 100000 in
theorem lifted (os : Os) (started : os.Started) (H : Type) (enc : TypeId × Value → H) :
    ReturnsInHanded {} Try.checked os 6 .any (Rows.fnValueGroupMatchesGrowsSpec.pre6 enc Try.prog Try.f6 Rows.fnValueGroupMatchesGrowsRow.domain false) (Rows.fnValueGroupMatchesGrowsSpec.post enc Try.prog Try.f6 false true false false) := by
  refine returnsInHanded_of_change (C := Try.checked) own started (by kernel_rfl) Try.func6
    (ChangeSpec.witness6 (enc := enc) (C := Try.checked) false ⟨#[], #[.bool false, .int .u8 0, .slice none 0 0, .int .i64 0, .string ByteArray.empty, .string ByteArray.empty, .int .u8 0, .bool false], []⟩ 8 (by kernel_rfl) (by kernel_rfl) (by kernel_rfl) (by kernel_rfl)) ?_
  intro W base args ds gs before hval0 hW hcnd _
  have hval : ∀ (j : Nat) t v, Try.f6.params[j]? = some t → args[j]? = some v → Value.okWide Try.prog W .any base t v := hval0
  have hW' := hW
  obtain ⟨p, q, hA0, hV, rfl, hfz, hnd⟩ := hW
  have hA : DataW.TrodAll enc Try.prog W 0 (fun _ => true) true Try.f6.params.toList args.toList ds p := hA0
  rw [Try.params6] at hA hval
  obtain ⟨v0, vs0, d0, ds0, p0, q0, hargs, rfl, rfl, h0, r0⟩ := trodAll_cons hA
  obtain ⟨v1, vs1, d1, ds1, p1, q1, rfl, rfl, rfl, h1, r1⟩ := trodAll_cons r0
  obtain ⟨v2, vs2, d2, ds2, p2, q2, rfl, rfl, rfl, h2, r2⟩ := trodAll_cons r1
  obtain ⟨v3, vs3, d3, ds3, p3, q3, rfl, rfl, rfl, h3, r3⟩ := trodAll_cons r2
  obtain ⟨v4, vs4, d4, ds4, p4, q4, rfl, rfl, rfl, h4, r4⟩ := trodAll_cons r3
  obtain ⟨v5, vs5, d5, ds5, p5, q5, rfl, rfl, rfl, h5, r5⟩ := trodAll_cons r4
  obtain ⟨v6, vs6, d6, ds6, p6, q6, rfl, rfl, rfl, h6, r6⟩ := trodAll_cons r5
  obtain ⟨v7, vs7, d7, ds7, p7, q7, rfl, rfl, rfl, h7, r7⟩ := trodAll_cons r6
  obtain ⟨rfl, rfl, rfl⟩ := trodAll_nil r7
  obtain rfl : args = #[v0, v1, v2, v3, v4, v5, v6, v7] := by cases args; simp_all
  obtain ⟨rfl, rfl⟩ := trodVars_none hV
  obtain ⟨a0, rfl, rfl, rfl⟩ := open_bool Try.underlying4 (hval 0 4 v0 rfl rfl) h0
  obtain ⟨a1, rfl, rfl, rfl, w1⟩ := open_int Try.underlying5 (hval 1 5 v1 rfl rfl) h1
  obtain ⟨a2, len2, cap2, rfl⟩ := okWide_slice Try.underlying25 (hval 2 25 v2 rfl rfl)
  have k2 := h2
  have lt2 : ∀ x ∈ p2, x.block < W.heap.size := by obtain ⟨m, hm⟩ := k2; exact DataW.trod_lt m _ _ _ hm
  obtain ⟨z2, w2⟩ : ∃ ss, IsStrs W a2 len2 cap2 ss := by
    obtain ⟨fuel, hf⟩ := h2
    rcases open_strings Try.underlying25 Try.underlying9 (by kernel_rfl) hf with ⟨hcs, _⟩ | ⟨x, l, c, zs, hcs, _, hl, hm, hz, _, hcell, hwz⟩
    · simp [Value.cells] at hcs
      obtain ⟨rfl, rfl, rfl⟩ := hcs
      exact ⟨[], .inl ⟨rfl, rfl, rfl⟩⟩
    · simp [Value.cells] at hcs
      obtain ⟨rfl, rfl, rfl⟩ := hcs
      exact ⟨zs, .inr ⟨_, rfl, hl, hm, by simpa using hz, hcell, hwz⟩⟩
  obtain ⟨a3, rfl, rfl, rfl, w3⟩ := open_int Try.underlying3 (hval 3 3 v3 rfl rfl) h3
  obtain ⟨a4, rfl, rfl, rfl, w4⟩ := open_string Try.underlying9 (hval 4 9 v4 rfl rfl) h4
  obtain ⟨a5, rfl, rfl, rfl, w5⟩ := open_string Try.underlying9 (hval 5 9 v5 rfl rfl) h5
  obtain ⟨a6, rfl, rfl, rfl, w6⟩ := open_int Try.underlying5 (hval 6 5 v6 rfl rfl) h6
  obtain ⟨a7, rfl, rfl, rfl⟩ := open_bool Try.underlying4 (hval 7 4 v7 rfl rfl) h7
  clear hA0 hval0
  refine (walk a0 a1 a2 len2 cap2 z2 a3 a4 a5 a6 a7 W w1 w2 w4 w5 w6).mono fun e W' ⟨he, bel⟩ => ?_
  subst he
  exact ⟨_, rfl, _, _, _, [], _, [], hW', trodAll_mk1 (shut_bool Try.underlying4 _), (trodAll_cons_mk (shut_bool Try.underlying4 _) (trodAll_cons_mk (shut_int Try.underlying5 w1) (trodAll_cons_mk (Below.trod laidOut (by kernel_rfl) (of_decide_eq_true (by kernel_rfl)) k2 bel lt2) (trodAll_cons_mk (shut_int Try.underlying3 w3) (trodAll_cons_mk (shut_string Try.underlying9 w4) (trodAll_cons_mk (shut_string Try.underlying9 w5) (trodAll_cons_mk (shut_int Try.underlying5 w6) (trodAll_cons_mk (shut_bool Try.underlying4 _) trodAll_mk0)))))))), rfl, bel.frame _, fun h => by cases h⟩

theorem over : Rows.fnValueGroupMatchesGrowsRow.holds Try.pinned (OpenSpec.ofChange Rows.fnValueGroupMatchesGrowsSpec) :=
  OpenClaim.holds_of_wide 6 Try.f6 rfl rfl rfl rfl rfl rfl rfl ⟨rfl, rfl, rfl, rfl, rfl⟩ rfl rfl rfl rfl rfl (by kernel_rfl) Try.func6 (by kernel_rfl)
    (of_decide_eq_true (by kernel_rfl)) (by unfold Func.isWrapper; first | (rw [if_pos (by decide +kernel)]; kernel_rfl) | (rw [if_neg (by decide +kernel)]; exact ⟨rfl, rfl⟩))
    (fun os started H enc _ => lifted os started H enc)

/-- THE STATEMENT -/
theorem proved : Rows.FnValueGroupMatchesGrowsSaid :=
  over
#print axioms proved
end Go.Proofs.Qxb6614662a.fnValueGroupMatchesGrows
