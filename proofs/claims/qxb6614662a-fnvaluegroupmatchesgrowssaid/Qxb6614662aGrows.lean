import Derived.Test.Qxb6614662aMatch
import Derived.Test.Qxb6614662aSizes
import Derived.Test.Qxb6614662aInsert
import Derived.Laws.CopyOwn
namespace Go.Proofs.Qxb6614662a
open Go.RowKit
set_option linter.unusedVariables false

theorem sz9 : (Try.prog.info? 9).map (·.size) = some 1 := by kernel_rfl

theorem Txt_of_row {w : World} {g n : Nat} {f : Nat → ByteArray} {xs : List Value} (h : w.heap[g]? = some (.cells xs.toArray 9 (0, 0))) (hx : xs = strings f 0 n) (hs : ∀ i, i < n → (f i).size ≤ maxLen) : Txt w g 0 n f := by
  intro i hi
  refine ⟨?_, hs i hi⟩
  rw [Nat.zero_add, cell_of_row w g i _ 9 (0, 0) h, hx]
  have := strings_at f 0 n i hi
  rw [Nat.zero_add] at this
  simpa using this

/-- 'copy(zzc, texts)': the run, and what lies there behind it. -/
theorem copied {w w1 : World} {b off n cap : Nat} {f : Nat → ByteArray} (hrow : ∃ cur : List Value, cur.length = n ∧ w1.heap[w.heap.size]? = some (.cells cur.toArray 9 (0, 0))) (ht : Txt w1 b off n f) (hB : Below w.heap.size w w1) :
    ∃ w2, (Builtin.copy_ #[25, 25] 3 #[.slice (some ⟨w.heap.size, 0, none⟩) n n, .slice (some ⟨b, off, none⟩) n cap]).run Try.prog w1 = .ok (.int .i64 n) w2 ∧ Txt w2 w.heap.size 0 n f ∧ w.heap.size < w2.heap.size ∧ Below w.heap.size w w2 := by
  obtain ⟨cur, hcl, hr⟩ := hrow
  have hlt : w.heap.size < w1.heap.size := by
    refine Nat.lt_of_not_le fun h => ?_
    rw [Array.getElem?_eq_none h] at hr
    cases hr
  have hrun := run_copy_row (P := Try.prog) w1 25 25 3 9 w.heap.size 0 n n ⟨b, off, none⟩ n cap cur.toArray 9 (strings f 0 n) Try.underlying25 sz9 hr (by rw [strings_len]; exact (Nat.min_self n).symm) (strings_cells ht 0 n (by omega) off rfl) (by rw [strings_len]; simp [hcl]) (strings_one f 0 n)
  have e : (cur.toArray.toList.take 0 ++ strings f 0 n ++ cur.toArray.toList.drop (0 + (strings f 0 n).length)) = strings f 0 n := by
    rw [strings_len]; simp [hcl]
  rw [e, strings_len] at hrun
  have hr2 := setRow_heap w1 w.heap.size cur.toArray (strings f 0 n).toArray 9 _ hr
  refine ⟨_, hrun, Txt_of_row hr2 rfl (fun i hi => (ht i hi).2), by simpa [World.setRow] using hlt, below_setRow hB (Nat.le_refl _) _⟩

set_option maxHeartbeats 2000000 in
theorem grows_main (gn : Bool) (gk : Int) (b off n cap : Nat) (f : Nat → ByteArray) (m : Nat) (t x : ByteArray) (wk : Int) (wn : Bool) (w : World)
    (hn : n ≤ 65536) (h0 : 0 < n) (hts : t.size ≤ 65536) (hxs : x.size ≤ 65536) (hgk : gk = 0 ∨ gk = 1) (hwk0 : 0 ≤ wk) (hwk : wk ≤ 2) (hm : m ≤ n) (ht : Txt w b off n f) (hb : b < w.heap.size) :
    Calls Try.prog 6 #[.bool gn, .int .u8 gk, .slice (some ⟨b, off, none⟩) n cap, .int .i64 m, .string t, .string x, .int .u8 wk, .bool wn] w fun e w' => e = .returned (.bool true) ∧ Below w.heap.size w w' := by
  obtain ⟨i0, hi, hz0, hz1, hz2⟩ := info_parts info9
  have htl : t.size ≤ maxLen := by unfold maxLen; omega
  have hxl : x.size ≤ maxLen := by unfold maxLen; omega
  have hnl : n ≤ maxLen := by unfold maxLen; omega
  have hgk0 : 0 ≤ gk := by omega
  have hgk1 : gk ≤ 1 := by omega
  have hk2 : (gk == 2) = false := beq_eq_false_iff_ne.2 (by omega)
  have hn0 : ((n : Int) == 0) = false := beq_eq_false_iff_ne.2 (by omega)
  have hne := fun w => run_neq_slice_nil_any (P := Try.prog) w 25 9 (some ⟨b, off, none⟩) n cap 0 0 Try.underlying25
  clear hgk
  go_enter Try.func6, Try.ntmps6
  go_wp2_with fail
  refine (bytes18_some gn gk b off n cap f m t x wk wn _ htl hxl hnl ht).mono ?_
  rintro e w' ⟨r, rfl, rfl⟩
  cases r
  · go_wp2
    go_ret
    exact ⟨rfl, Below.refl _ _⟩
  go_wp2_with fail
  refine (texts14_some b off n cap f _ _ hnl ht).mono ?_
  rintro e w' ⟨r, rfl, rfl⟩
  by_cases hr : (1048576 : Int) < r
  · go_wp2
    go_ret
    exact ⟨rfl, Below.refl _ _⟩
  go_wp2_with (at_make; refine wpList_make_full _ rfl _ _ 25 rfl w.heap.size 9 i0 (.string ByteArray.empty) 1 Try.underlying25 hi hz0 hz1 _ _ _ _ n rfl rfl rfl rfl ?b2 ?b3 (Nat.le_refl _) ?_)
  case b2 => rw [hz2]; omega
  case b3 => exact hnl
  intro w1 hown1 hgrow1
  have hB1 : Below w.heap.size w w1 := (Below.refl _ _).grown hgrow1 (Nat.le_refl _) (by intro k hk; cases hk)
  have ht1 := ht.below hB1 hb
  have hsz1 : w.heap.size < w1.heap.size := (hown1.lt _ rfl).2
  have hrow : Hid (∃ cur : List Value, cur.length = n ∧ w1.heap[w.heap.size]? = some (.cells cur.toArray 9 (0, 0))) := by
    rcases hown1.2 with ⟨h', _⟩ | ⟨g', cap', cur, h', _, hg, _, _, hcs, _⟩
    · cases h'
    · simp only [Value.slice.injEq, Option.some.injEq, Addr.mk.injEq, and_true, true_and] at h'
      obtain ⟨rfl, rfl⟩ := h'
      exact ⟨cur.toList, by simpa using hcs, by simpa using hg⟩
  obtain ⟨w2, hcp, ht2, hsz2, hB2⟩ := copied (cap := cap) (unhide hrow) ht1 hB1
  clear hgrow1 hown1 hrow hB1 ht1 hsz1
  go_wp2_with fail
  refine (inserted_any w.heap.size n m f t _ hn hm hsz2 ht2 htl).mono ?_
  rintro e w3 ⟨g, rfl, hg3, ht3, hB3⟩
  have hB3' := hB2.trans (hB3.mono (Nat.le_of_lt hsz2))
  have ht3o := ht2.below hB3 hsz2
  have hsz3 : w.heap.size < w3.heap.size := Nat.lt_of_lt_of_le hsz2 hB3.size
  have etx := hide (ins_tx f n m t hm)
  clear hB3 hB2 ht2 hsz2
  cases hup : Pl.ups gk (tx (ins f m t) (n + 1))
  · have HU := hide hup
    clear hup
    go_wp2_with fail
    refine (rising_any gk g 0 (n + 1) (n + 1) (ins f m t) _ (by omega) ht3).mono ?_
    rw [unhide HU]
    rintro e w4 ⟨rfl, q, rfl⟩
    go_wp2_with fail
    go_ret
    exact ⟨rfl, below_draws hB3' _⟩
  · obtain ⟨u1, u2, p1, p2⟩ := Pl.law gn gk (tx f n) x.data.toList wk wn m t.data.toList (by rw [tx_len]; exact h0) (by rw [tx_len]; exact hm) (by rw [← unhide etx]; exact hup)
    rw [← unhide etx] at u2 p2
    have HU := hide hup
    clear hup
    have U1 := hide u1
    have U2 := hide u2
    clear u1 u2
    go_wp2_with fail
    refine (rising_any gk g 0 (n + 1) (n + 1) (ins f m t) _ (by omega) ht3).mono ?_
    rw [unhide HU]
    rintro e w4 ⟨rfl, hq⟩
    have hB4 : Below w.heap.size w w4 := by obtain ⟨q, rfl⟩ := hq; exact below_draws hB3' q
    have ht4 := ht3.drawn hq
    have ht4o := ht3o.drawn hq
    have hz4 : w4.heap.size = w3.heap.size := by obtain ⟨q, rfl⟩ := hq; simp
    have hg4 : g < w4.heap.size := by rw [hz4]; exact hg3
    have hs4 : w.heap.size < w4.heap.size := by rw [hz4]; exact hsz3
    clear hq hz4 hB3' ht3 ht3o hg3 hsz3
    have n1 := fun (w' : World) hb ht => zzm_any gn wn gk wk hk2 w.heap.size 0 n n f x w' h0 (by omega) hxl hb ht U1
    have n2 := fun (w' : World) hb ht => zzm_any gn wn gk wk hk2 g 0 (n + 1) (n + 1) (ins f m t) x w' (Nat.succ_pos n) (by omega) hxl hb ht U2
    have n3 := fun (w' : World) ht => group_any gn gk w.heap.size 0 n n f x wk wn w' (by omega) hxl ht
    have n4 := fun (w' : World) => one_any gn gk t x wk wn w' htl hxl
    rw [← p1] at n3
    rw [p2] at n2
    clear p1 p2
    generalize Pl.mat gn gk (tx f n) x.data.toList wk wn = bv at *
    generalize Pl.one gn gk t.data.toList x.data.toList wk wn = ov at *
    have N1 := hide n1
    have N2 := hide n2
    have N3 := hide n3
    have N4 := hide n4
    clear n1 n2 n3 n4
    cases bv
    · cases ov
      all_goals
        go_wp2_with fail
        refine (unhide N1 w4 hs4 ht4o).mono ?_
        rintro e w5 ⟨rfl, hb5⟩
        have ht5 := ht4.below hb5 hg4
        have ht5o := ht4o.below hb5 hs4
        have hg5 : g < w5.heap.size := Nat.lt_of_lt_of_le hg4 hb5.size
        have hs5 : w.heap.size < w5.heap.size := Nat.lt_of_lt_of_le hs4 hb5.size
        have hB5 := hB4.trans (hb5.mono (Nat.le_of_lt hs4))
        clear hb5
        go_wp2_with fail
        refine (unhide N2 w5 hg5 ht5).mono ?_
        rintro e w6 ⟨rfl, hb6⟩
        have ht6o := ht5o.below hb6 hs5
        have hB6 := hB5.trans (hb6.mono (Nat.le_of_lt hs5))
        clear hb6
        go_wp2_with fail
        refine (unhide N3 w6 ht6o).mono ?_
        rintro e w7 ⟨rfl, rfl⟩
        go_wp2_with fail
        refine (unhide N4 _).mono ?_
        rintro e w8 ⟨rfl, rfl⟩
        go_wp2_with fail
        go_ret
        exact ⟨rfl, hB6⟩
    · go_wp2_with fail
      refine (unhide N1 w4 hs4 ht4o).mono ?_
      rintro e w5 ⟨rfl, hb5⟩
      have ht5 := ht4.below hb5 hg4
      have ht5o := ht4o.below hb5 hs4
      have hg5 : g < w5.heap.size := Nat.lt_of_lt_of_le hg4 hb5.size
      have hs5 : w.heap.size < w5.heap.size := Nat.lt_of_lt_of_le hs4 hb5.size
      have hB5 := hB4.trans (hb5.mono (Nat.le_of_lt hs4))
      clear hb5
      go_wp2_with fail
      refine (unhide N2 w5 hg5 ht5).mono ?_
      rintro e w6 ⟨rfl, hb6⟩
      have ht6o := ht5o.below hb6 hs5
      have hB6 := hB5.trans (hb6.mono (Nat.le_of_lt hs5))
      clear hb6
      go_wp2_with fail
      refine (unhide N3 w6 ht6o).mono ?_
      rintro e w7 ⟨rfl, rfl⟩
      go_wp2_with fail
      go_ret
      exact ⟨rfl, hB6⟩

end Go.Proofs.Qxb6614662a
