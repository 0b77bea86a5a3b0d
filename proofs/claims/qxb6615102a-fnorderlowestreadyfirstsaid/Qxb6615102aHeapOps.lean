import Derived.Test.Qxb6615102aHeap
namespace Go.Proofs.Qxb6615102a
open Go.RowKit
set_option linter.unusedVariables false

/-- What heap.Push leaves. -/
def PushPost (H : Nat) (v : Value) (zs : List Int) (x : Int) (w : World) (e : Ending) (w' : World) : Prop :=
  e = .returned (.tuple #[]) ∧ ∃ v' zs', HeapAt w' H v' zs' ∧ zs'.Perm (x :: zs) ∧ Hp zs' zs'.length ∧ Frm (Tch H v) w w' ∧ (v'.ownBlock = v.ownBlock ∨ ∃ g, v'.ownBlock = some g ∧ w.heap.size ≤ g)

theorem Tch.back {H : Nat} {v v' : Value} {w : World} (h : v'.ownBlock = v.ownBlock ∨ ∃ g, v'.ownBlock = some g ∧ w.heap.size ≤ g) : ∀ k, k < w.heap.size → Tch H v' k → Tch H v k := by
  rintro k hk (rfl | h')
  · exact Or.inl rfl
  · rcases h with e | ⟨g, e, hg⟩
    · exact Or.inr (h'.trans e)
    · rw [e] at h'
      obtain rfl := Option.some.inj h'
      omega
/-- Two steps in a row, the second on what the first left. -/
theorem Frm.then {S T : Nat → Prop} {a b c : World} (h : Frm S a b) (k : Frm T b c) (hst : ∀ i, i < a.heap.size → T i → S i) : Frm S a c :=
  ⟨k.os.trans h.os, k.tape.trans h.tape, k.output.trans h.output, Nat.le_trans h.size k.size, fun i hi hs => (k.block i (Nat.lt_of_lt_of_le hi h.size) (fun t => hs (hst i hi t))).trans (h.block i hi hs)⟩

set_option maxHeartbeats 400000 in
theorem hpPush_any (H : Nat) (v : Value) (zs : List Int) (x : Int) (w : World) (h : HeapAt w H v zs) (hl : zs.length < 65537) (hh : Hp zs zs.length) :
    Calls Try.prog 14 #[.iface 31 (.pointer (some ⟨H, 0, none⟩)), .iface 3 (.int .i64 x)] w fun e w' => PushPost H v zs x w e w' := by
  have hm := m_push ⟨H, 0, none⟩ w
  have C := hide (hpush_any H v zs x w h (by omega))
  have HH := hide hh
  clear hh h
  go_enter Try.func14, Try.ntmps14
  go_wp2_with fail
  refine (unhide C).mono ?_
  rintro e w1 ⟨rfl, v1, ha, hf, hv⟩
  have hml := m_len ⟨H, 0, none⟩ v1 w1 ha.cell
  have CL := hide (hlen_any H v1 (zs ++ [x]) w1 ha)
  have hlen : (zs ++ [x]).length = zs.length + 1 := by simp
  have CU := hide (up_any H v1 (zs ++ [x]) zs.length w1 ha (by omega) (by omega) (up_start zs x (unhide HH)))
  rw [hlen] at CL
  have HF := hide hf
  have HV := hide hv
  clear hm hf hv ha hlen
  go_wp2_with fail
  refine (unhide CL).mono ?_
  rintro e w2 ⟨rfl, rfl⟩
  go_wp2_with fail
  refine (unhide CU).mono ?_
  rintro e w3 ⟨rfl, zs', ha', hp', hh', hf'⟩
  go_wp2_with fail
  go_end0
  exact ⟨rfl, v1, zs', ha', hp'.trans (List.perm_append_singleton x zs), hh', (unhide HF).then hf' (Tch.back (unhide HV)), unhide HV⟩

/-- What heap.Pop leaves: the least is handed back. -/
def PopPost (H : Nat) (v : Value) (zs : List Int) (w : World) (e : Ending) (w' : World) : Prop :=
  ∃ x, e = .returned (.iface 3 (.int .i64 x)) ∧ (∀ y ∈ zs, x ≤ y) ∧ ∃ v' zs', HeapAt w' H v' zs' ∧ zs.Perm (x :: zs') ∧ Hp zs' zs'.length ∧ Frm (Tch H v) w w' ∧ v'.ownBlock = v.ownBlock

set_option maxHeartbeats 400000 in
theorem hpPop_any (H : Nat) (v : Value) (zs : List Int) (w : World) (h : HeapAt w H v zs) (hl : zs.length ≤ 65537) (h0 : 0 < zs.length) (hh : Hp zs zs.length) :
    Calls Try.prog 16 #[.iface 31 (.pointer (some ⟨H, 0, none⟩))] w fun e w' => PopPost H v zs w e w' := by
  obtain ⟨n, hn⟩ : ∃ n, zs.length = n + 1 := ⟨zs.length - 1, by omega⟩
  have hml := m_len ⟨H, 0, none⟩ v w h.cell
  have hms := m_swap ⟨H, 0, none⟩ v w h.cell
  have CL := hide (hlen_any H v zs w h)
  have cs := hswap_any H v zs 0 n w h hl (by omega) (by omega)
  rw [show ((0 : Nat) : Int) = 0 from rfl] at cs
  have CS := hide cs
  rw [hn] at CL
  have hnl : n ≤ 65536 := by omega
  have hmn := hp_min zs zs.length hh
  rw [hn] at hh
  have HN := hide hn
  have HH := hide hh
  have HM := hide hmn
  clear hh h hn hl h0 cs hmn
  go_enter Try.func16, Try.ntmps16
  go_wp2_with fail
  refine (unhide CL).mono ?_
  rintro e w1 ⟨rfl, hw1⟩
  obtain rfl := hw1.symm
  go_wp2_with fail
  refine (unhide CS).mono ?_
  rintro e w2 ⟨rfl, ha2, hf2⟩
  have CD := hide (down_any H v (sw zs 0 n) n w2 ha2 (by rw [sw_len, unhide HN]; omega) (by rw [sw_len]; exact unhide HN) (down_start zs n (unhide HN) (unhide HH)))
  have HF2 := hide hf2
  clear ha2 hf2 hml hms
  go_wp2_with fail
  refine (unhide CD).mono ?_
  rintro e w3 ⟨⟨r, rfl⟩, zs3, ha3, hp3, hl3, hh3, hf3⟩
  have hlen3 : zs3.length = n + 1 := by rw [hp3.length_eq, sw_len]; exact unhide HN
  have hcut := last_cut zs3 n hlen3
  have hx : zs3.getD n 0 = zs.getD 0 0 := by
    rw [hl3, sw_get _ _ _ _ (by rw [unhide HN]; omega) (by rw [unhide HN]; omega), if_pos rfl]
  rw [hx] at hcut
  have hmp := m_pop ⟨H, 0, none⟩ w3
  have CP := hide (hpop_any H v (zs3.take n) (zs.getD 0 0) w3 (hcut ▸ ha3) (by rw [List.length_take]; omega))
  have HPM : Hid (zs.Perm (zs.getD 0 0 :: zs3.take n)) := hide (by
    refine ((hp3.trans (sw_perm zs 0 n (by rw [unhide HN]; omega) (by rw [unhide HN]; omega))).symm).trans ?_
    exact (hcut ▸ List.Perm.refl zs3 : zs3.Perm (zs3.take n ++ [zs.getD 0 0])).trans (List.perm_append_singleton _ _))
  have HH3 := hide (hp_take zs3 n (by omega) hh3)
  have HF3 := hide hf3
  clear hcut hx hlen3 hl3 hp3 ha3 hh3 hf3
  go_wp2_with fail
  refine (unhide CP).mono ?_
  rintro e w4 ⟨rfl, v4, ha4, hf4, hv4⟩
  have HA4 := hide ha4
  have HF4 := hide hf4
  clear ha4 hf4
  go_wp2_with fail
  go_ret
  refine ⟨zs.getD 0 0, rfl, ?_, v4, zs3.take n, unhide HA4, unhide HPM, unhide HH3, ((unhide HF2).trans (unhide HF3)).trans (unhide HF4), hv4⟩
  intro y hy
  obtain ⟨k, hk, rfl⟩ := List.getElem_of_mem hy
  have := unhide HM k hk
  rw [List.getD_eq_getElem?_getD (i := k), List.getElem?_eq_getElem hk] at this
  exact this
end Go.Proofs.Qxb6615102a
