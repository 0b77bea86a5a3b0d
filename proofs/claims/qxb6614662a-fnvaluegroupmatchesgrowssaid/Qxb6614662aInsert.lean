import Derived.Test.Qxb6614662aTexts
import Derived.OwnWalk
import Derived.Laws.OwnMore
namespace Go.Proofs.Qxb6614662a
open Go.RowKit
set_option linter.unusedVariables false

theorem info9 : (Try.prog.info? 9).map (fun i => (i.zero, i.size, i.bytes)) = some (some (.string ByteArray.empty), 1, 16) := by kernel_rfl

/-- f with t put in at m. -/
def ins (f : Nat → ByteArray) (m : Nat) (t : ByteArray) (i : Nat) : ByteArray := if i < m then f i else if i = m then t else f (i - 1)
def strings (f : Nat → ByteArray) (m k : Nat) : List Value := (List.range k).map fun i => .string (f (m + i))
theorem strings_len (f : Nat → ByteArray) (m k : Nat) : (strings f m k).length = k := by simp [strings]
theorem strings_at (f : Nat → ByteArray) (m k i : Nat) (h : i < k) : (strings f m k)[i]? = some (.string (f (m + i))) := by
  unfold strings; simp [h]
theorem strings_one (f : Nat → ByteArray) (m k : Nat) : ∀ u ∈ strings f m k, u.oneCell' = true := by
  intro u hu
  unfold strings at hu
  obtain ⟨i, _, rfl⟩ := List.mem_map.1 hu
  rfl
theorem strings_cells {w : World} {b off n : Nat} {f : Nat → ByteArray} (ht : Txt w b off n f) (m k : Nat) (h : m + k ≤ n) (x : Nat) (hx : x = off + m) : ∀ j u, (strings f m k)[j]? = some u → w.cell? ((⟨b, x, none⟩ : Addr).add j) = some u := by
  intro j u hu
  subst hx
  have hj : j < k := by
    have := (List.getElem?_eq_some_iff.1 hu).1
    rwa [strings_len] at this
  rw [strings_at f m k j hj] at hu
  rw [Addr.add_lit, Nat.add_assoc, (ht (m + j) (by omega)).1]
  exact hu
theorem Txt.below {w w' : World} {B b off n : Nat} {f : Nat → ByteArray} (h : Txt w b off n f) (hb : Below B w w') (hB : b < B) : Txt w' b off n f := fun i hi =>
  ⟨(hb.cell (p := ⟨b, off + i, none⟩) hB).trans (h i hi).1, (h i hi).2⟩

theorem strings_from {w : World} {b n : Nat} {f : Nat → ByteArray} (ht : Txt w b 0 n f) (m : Nat) (h : m ≤ n) {ao : Option Addr} (hao : ¬ n = m → ao = some ⟨b, m, none⟩) : ∀ ad, ao = some ad → ∀ j u, (strings f m (n - m))[j]? = some u → w.cell? (ad.add j) = some u := by
  intro ad had j u hu
  have hj : j < n - m := by
    have := (List.getElem?_eq_some_iff.1 hu).1
    rwa [strings_len] at this
  rw [hao (by omega)] at had
  obtain rfl := Option.some.inj had
  exact strings_cells ht m (n - m) (by omega) m (by omega) j u hu

/-- What insertedAt hands back. -/
def InsPost (w : World) (n m : Nat) (f : Nat → ByteArray) (t : ByteArray) (e : Ending) (w' : World) : Prop :=
  ∃ g, e = .returned (.slice (some ⟨g, 0, none⟩) (n + 1) (n + 1)) ∧ g < w'.heap.size ∧ Txt w' g 0 (n + 1) (ins f m t) ∧ Below w.heap.size w w'

theorem ins_at (f : Nat → ByteArray) (m k : Nat) (t : ByteArray) (i : Nat) (hi : i < m + 1 + k) : (strings f 0 m ++ .string t :: strings f m k)[i]? = some (.string (ins f m t i)) := by
  unfold ins
  by_cases h : i < m
  · rw [if_pos h, List.getElem?_append_left (by rw [strings_len]; exact h), strings_at f 0 m i h, Nat.zero_add]
  · rw [if_neg h, List.getElem?_append_right (by rw [strings_len]; omega), strings_len]
    by_cases h' : i = m
    · subst h'
      rw [if_pos rfl, Nat.sub_self]
      rfl
    · rw [if_neg h', show i - m = (i - m - 1) + 1 by omega, List.getElem?_cons_succ, strings_at f m k _ (by omega)]
      congr 3
      omega
theorem ins_done {w w4 : World} {n m g L C k B : Nat} {f : Nat → ByteArray} {t : ByteArray} (hown : w4.ownsRow B 9 1 (.slice (some ⟨g, 0, none⟩) L C) L (strings f 0 m ++ .string t :: strings f m k))
    (hL : L = n + 1) (hC : C = n + 1) (hk : k = n - m) (hm : m ≤ n) (hg : g < w4.heap.size) (hB : Below w.heap.size w w4) {b : Nat} (ht : Txt w b 0 n f) (hts : t.size ≤ maxLen) :
    InsPost w n m f t (.returned (.slice (some ⟨g, 0, none⟩) L C)) w4 := by
  subst hL hC hk
  refine ⟨g, rfl, hg, fun i hi => ⟨?_, ?_⟩, hB⟩
  · rw [Nat.zero_add, hown.cellAt i (by omega), ins_at f m (n - m) t i (by omega)]
  · unfold ins
    split
    · exact (ht i (by omega)).2
    · split
      · exact hts
      · exact (ht (i - 1) (by omega)).2

theorem ins_tx (f : Nat → ByteArray) (n m : Nat) (t : ByteArray) (hm : m ≤ n) : tx (ins f m t) (n + 1) = (tx f n).take m ++ t.data.toList :: (tx f n).drop m := by
  refine List.ext_getElem? fun i => ?_
  by_cases h1 : i < m
  · rw [List.getElem?_append_left (by rw [List.length_take, tx_len]; omega), List.getElem?_take_of_lt h1]
    simp [tx, ins, h1, show i < n + 1 by omega, show i < n by omega]
  · rw [List.getElem?_append_right (by rw [List.length_take, tx_len]; omega), List.length_take, tx_len, show min m n = m by omega]
    by_cases h2 : i = m
    · subst h2
      simp [tx, ins, show i < n + 1 by omega]
    · rw [show i - m = (i - m - 1) + 1 by omega, List.getElem?_cons_succ, List.getElem?_drop, show m + (i - m - 1) = i - 1 by omega]
      by_cases h3 : i < n + 1
      · simp [tx, ins, h1, h2, h3, show i - 1 < n by omega]
      · rw [List.getElem?_eq_none (by rw [tx_len]; omega), List.getElem?_eq_none (by rw [tx_len]; omega)]

set_option maxHeartbeats 1000000 in
theorem inserted_any (b n m : Nat) (f : Nat → ByteArray) (t : ByteArray) (w : World) (hn : n ≤ 65536) (hm : m ≤ n) (hb : b < w.heap.size) (ht : Txt w b 0 n f) (hts : t.size ≤ maxLen) :
    Calls Try.prog 19 #[.slice (some ⟨b, 0, none⟩) n n, .int .i64 m, .string t] w fun e w' => InsPost w n m f t e w' := by
  obtain ⟨i0, hi, hz0, hz1, hz2⟩ := info_parts info9
  go_enter Try.func19, Try.ntmps19
  go_wp2_with (at_make; refine wpList_make_own _ rfl _ _ 25 rfl w.heap.size 9 i0 (.string ByteArray.empty) 1 Try.underlying25 hi hz0 hz1 _ _ _ (n + 1) rfl rfl (by omega) ?b2 ?b3 (Nat.le_refl _) ?_)
  case b2 => rw [hz2]; omega
  case b3 => unfold maxLen; omega
  intro w1 hown1 hgrow1
  have hB1 : Below w.heap.size w w1 := (Below.refl _ _).grown hgrow1 (Nat.le_refl _) (by intro k hk; cases hk)
  have ht1 := ht.below hB1 hb
  have hsz1 := hgrow1.size
  clear hgrow1
  go_wp2_with (at_builtin; refine wpList_append_fits _ rfl (.tmp 12) (.tmp 15) 25 rfl w.heap.size 9 i0 1 Try.underlying25 hi hz1 w.heap.size 0 (n + 1) [] rfl hown1 ⟨b, 0, none⟩ m n (strings f 0 m) rfl (by rw [strings_len, Nat.mul_one]) (strings_cells ht1 0 m (by omega) 0 rfl) (strings_one f 0 m) (by omega) ?_)
  intro w2 hown2 hgrow2
  try simp only [Nat.zero_add, List.nil_append] at hown2
  have hB2 : Below w.heap.size w w2 := hB1.grown hgrow2 hsz1 (by intro k hk; obtain rfl := Option.some.inj hk; exact Nat.le_refl _)
  have ht2 := ht.below hB2 hb
  have hsz2 : w.heap.size < w2.heap.size := Nat.lt_of_lt_of_le (hown1.lt _ rfl).2 hgrow2.size
  clear hgrow2 hown1 hB1 ht1 hsz1
  go_wp2_with (at_builtin; refine wpList_append_fits _ rfl (.tmp 17) (.tmp 19) 25 rfl w.heap.size 9 i0 1 Try.underlying25 hi hz1 w.heap.size m (n + 1) (strings f 0 m) rfl (hown2.alloc _) ⟨w2.heap.size, 0, none⟩ 1 1 [.string t] rfl rfl (by intro j u hj; match j, hj with | 0, hj => simp at hj; subst hj; simp [Addr.add]) (by intro u hu; simp at hu; subst hu; rfl) (by omega) ?_)
  intro w3 hown3 hgrow3
  have hB3 : Below w.heap.size w w3 := (hB2.alloc (Nat.le_of_lt hsz2) _).grown hgrow3 (by simp; omega) (by intro k hk; obtain rfl := Option.some.inj hk; exact Nat.le_refl _)
  have ht3 := ht.below hB3 hb
  have hsz3 : w.heap.size < w3.heap.size := by have := hgrow3.size; simp at this; omega
  clear hgrow3 hown2 hB2 ht2 hsz2
  go_wp2_with (at_builtin; refine wpList_append_fits_any _ rfl (.tmp 21) (.tmp 24) 25 rfl w.heap.size 9 i0 1 Try.underlying25 hi hz1 w.heap.size (m + 1) (n + 1) (strings f 0 m ++ [.string t]) rfl hown3 _ (n - m) _ (strings f m (n - m)) rfl (by rw [strings_len, Nat.mul_one]) (by intro h; first | cases h | (split at h <;> cases h)) (strings_from ht3 m hm (by intro h; first | rfl | simp [h])) (strings_one f m (n - m)) (by omega) ?_)
  all_goals
    intro w4 hown4 hgrow4
    have hB4 : Below w.heap.size w w4 := hB3.grown hgrow4 (Nat.le_of_lt hsz3) (by intro k hk; obtain rfl := Option.some.inj hk; exact Nat.le_refl _)
    have hsz4 : w.heap.size < w4.heap.size := Nat.lt_of_lt_of_le hsz3 hgrow4.size
    clear hgrow4 hB3 ht3 hsz3 hown3
    have H4 := hide hown4
    clear hown4
    go_wp2
    go_ret
    exact ins_done (unhide H4) (by omega) (by omega) (by omega) hm hsz4 hB4 ht hts

end Go.Proofs.Qxb6614662a
