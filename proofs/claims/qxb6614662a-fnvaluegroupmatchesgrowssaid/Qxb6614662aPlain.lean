import Derived.Lib.Bytealg
import Derived.Lib.Small
namespace Go.Proofs.Qxb6614662a.Pl
open Go.Lib (compareBytes compareInt)

def digB : List UInt8 → Bool
  | [] => true
  | c :: l => decide (48 ≤ c.toNat ∧ c.toNat ≤ 57) && digB l

def head0 : List UInt8 → Bool
  | [] => false
  | c :: _ => c.toNat == 48
def last0 : List UInt8 → Bool
  | [] => false
  | [c] => c.toNat == 48
  | _ :: l => last0 l
def nul (l : List UInt8) : Bool := l.length == 0

def wfB (b n : Bool) (wh fr : List UInt8) : Bool :=
  bif b then digB wh && digB fr && !head0 wh && !last0 fr && !(n && nul wh && nul fr)
  else !n && nul wh && nul fr

def gd (s : List UInt8) (i : Nat) : Nat := (s.getD i 0).toNat
def padL (s : List UInt8) (n i : Nat) : Nat := if i + s.length < n then 48 else gd s (i + s.length - n)
def padR (s : List UInt8) (i : Nat) : Nat := if i < s.length then gd s i else 48

def lexc (f g : Nat → Nat) : Nat → Nat → Int
  | 0, _ => 0
  | k + 1, i => if f i < g i then -1 else if g i < f i then 1 else lexc f g k (i + 1)

def magW (aw bw : List UInt8) : Int := lexc (padL aw (max aw.length bw.length)) (padL bw (max aw.length bw.length)) (max aw.length bw.length) 0
def magF (af bf : List UInt8) : Int := lexc (padR af) (padR bf) (max af.length bf.length) 0
def or2 (a b : Int) : Int := if a = 0 then b else a
def mag (aw af bw bf : List UInt8) : Int := or2 (magW aw bw) (magF af bf)
def sgn (n : Bool) (wh fr : List UInt8) : Int := bif nul wh && nul fr then 0 else bif n then -1 else 1

def decLe (an : Bool) (aw af : List UInt8) (bn : Bool) (bw bf : List UInt8) : Bool :=
  if sgn an aw af = sgn bn bw bf then
    if sgn an aw af = 0 then true else if sgn an aw af < 0 then decide (0 ≤ mag aw af bw bf) else decide (mag aw af bw bf ≤ 0)
  else decide (sgn an aw af < sgn bn bw bf)

def endLe (ab an : Bool) (aw af : List UInt8) (bb bn : Bool) (bw bf : List UInt8) : Bool :=
  !ab || !bb || decLe an aw af bn bw bf

def cmp3 (aw af bw bf : List UInt8) : Int := or2 (compareInt aw.length bw.length) (or2 (compareBytes aw bw) (compareBytes af bf))
def dcmp (an : Bool) (aw af : List UInt8) (bn : Bool) (bw bf : List UInt8) : Int :=
  bif an != bn then (bif an then -1 else 1) else bif an then - cmp3 aw af bw bf else cmp3 aw af bw bf
def notAb (ab an : Bool) (aw af : List UInt8) (bb bn : Bool) (bw bf : List UInt8) : Bool :=
  !ab || !bb || decide (dcmp an aw af bn bw bf ≤ 0)
def mir (n : Bool) (wh fr : List UInt8) : Bool := bif nul wh && nul fr then false else !n

/-! ### lexc -/
theorem lexc_range (f g : Nat → Nat) : ∀ k i, lexc f g k i = -1 ∨ lexc f g k i = 0 ∨ lexc f g k i = 1
  | 0, _ => by simp [lexc]
  | k + 1, i => by
    unfold lexc
    split
    · simp
    · split
      · simp
      · exact lexc_range f g k (i + 1)

theorem lexc_congr (f g f' g' : Nat → Nat) : ∀ k i j, (∀ m, m < k → f (i + m) = f' (j + m) ∧ g (i + m) = g' (j + m)) → lexc f g k i = lexc f' g' k j
  | 0, _, _, _ => rfl
  | k + 1, i, j, h => by
    have h0 := h 0 (by omega)
    simp only [Nat.add_zero] at h0
    have ih := lexc_congr f g f' g' k (i + 1) (j + 1) (fun m hm => by
      have := h (m + 1) (by omega)
      rw [show i + (m + 1) = i + 1 + m by omega, show j + (m + 1) = j + 1 + m by omega] at this
      exact this)
    unfold lexc
    rw [h0.1, h0.2, ih]

theorem gd_cons_zero (c : UInt8) (l : List UInt8) : gd (c :: l) 0 = c.toNat := rfl
theorem gd_cons_succ (c : UInt8) (l : List UInt8) (i : Nat) : gd (c :: l) (i + 1) = gd l i := rfl

theorem compareBytes_eq (l : List UInt8) : compareBytes l l = 0 := by
  induction l with
  | nil => rfl
  | cons c l ih => unfold compareBytes; rw [if_neg (UInt8.lt_irrefl c), if_neg (UInt8.lt_irrefl c), ih]

/-- The same lengths: the padded comparison is the comparison of the bytes. -/
theorem lexc_same : ∀ (a b : List UInt8), a.length = b.length → lexc (gd a) (gd b) a.length 0 = compareBytes a b
  | [], [], _ => rfl
  | [], _ :: _, h => by simp at h
  | _ :: _, [], h => by simp at h
  | c :: a, d :: b, h => by
    have ih := lexc_same a b (by simpa using h)
    rw [List.length_cons]
    unfold lexc compareBytes
    rw [gd_cons_zero, gd_cons_zero, lexc_congr (gd (c :: a)) (gd (d :: b)) (gd a) (gd b) a.length (0 + 1) 0 (fun m _ => by
      rw [show 0 + 1 + m = m + 1 by omega, Nat.zero_add]; exact ⟨rfl, rfl⟩), ih]
    simp only [UInt8.lt_iff_toNat_lt]

theorem digB_get : ∀ (l : List UInt8), digB l = true → ∀ i, i < l.length → 48 ≤ gd l i ∧ gd l i ≤ 57
  | [], _, i, hi => by simp at hi
  | c :: l, h, i, hi => by
    simp only [digB, Bool.and_eq_true, decide_eq_true_eq] at h
    cases i with
    | zero => exact h.1
    | succ i => exact digB_get l h.2 i (by simpa using hi)

theorem magW_lt (aw bw : List UInt8) (h : aw.length < bw.length) (hd : digB bw = true) (h0 : head0 bw = false) : magW aw bw = -1 := by
  obtain ⟨n, hn⟩ : ∃ n, bw.length = n + 1 := ⟨bw.length - 1, by omega⟩
  have g := digB_get bw hd 0 (by omega)
  have g' : gd bw 0 ≠ 48 := by
    cases bw with
    | nil => simp at hn
    | cons c l => intro e; rw [gd_cons_zero] at e; simp [head0, e] at h0
  have hm : max aw.length bw.length = n + 1 := by omega
  unfold magW
  rw [hm]
  unfold lexc
  have e1 : padL aw (n + 1) 0 = 48 := by unfold padL; rw [if_pos (by omega)]
  have e2 : padL bw (n + 1) 0 = gd bw 0 := by unfold padL; rw [if_neg (by omega)]; congr 1; omega
  rw [e1, e2, if_pos (by omega)]

theorem magW_gt (aw bw : List UInt8) (h : bw.length < aw.length) (hd : digB aw = true) (h0 : head0 aw = false) : magW aw bw = 1 := by
  obtain ⟨n, hn⟩ : ∃ n, aw.length = n + 1 := ⟨aw.length - 1, by omega⟩
  have g := digB_get aw hd 0 (by omega)
  have g' : gd aw 0 ≠ 48 := by
    cases aw with
    | nil => simp at hn
    | cons c l => intro e; rw [gd_cons_zero] at e; simp [head0, e] at h0
  have hm : max aw.length bw.length = n + 1 := by omega
  unfold magW
  rw [hm]
  unfold lexc
  have e1 : padL bw (n + 1) 0 = 48 := by unfold padL; rw [if_pos (by omega)]
  have e2 : padL aw (n + 1) 0 = gd aw 0 := by unfold padL; rw [if_neg (by omega)]; congr 1; omega
  rw [e1, e2, if_neg (by omega), if_pos (by omega)]

theorem magW_eq (aw bw : List UInt8) (h : aw.length = bw.length) : magW aw bw = compareBytes aw bw := by
  rw [← lexc_same aw bw h]
  unfold magW
  have hm : max aw.length bw.length = aw.length := by omega
  rw [hm]
  exact lexc_congr _ _ _ _ _ _ _ (fun m hm' => by
    unfold padL
    rw [if_neg (by omega), if_neg (by omega)]
    constructor <;> congr 1 <;> omega)

/-! ### the fractions -/
theorem last0_cons (c d : UInt8) (l : List UInt8) : last0 (c :: d :: l) = last0 (d :: l) := rfl

/-- Nothing against digits that do not end in '0': below. -/
theorem lexc_nil_lt (f : Nat → Nat) (hf : ∀ i, f i = 48) : ∀ (b : List UInt8), b ≠ [] → digB b = true → last0 b = false → lexc f (gd b) b.length 0 = -1
  | [], h, _, _ => absurd rfl h
  | [c], _, hd, hl => by
    have g := digB_get [c] hd 0 (by simp)
    have g' : gd [c] 0 ≠ 48 := by intro e; rw [gd_cons_zero] at e; simp [last0, e] at hl
    simp only [List.length_cons, List.length_nil]
    unfold lexc
    rw [hf, if_pos (by omega)]
  | c :: d :: b, _, hd, hl => by
    have g := digB_get (c :: d :: b) hd 0 (by simp)
    have hd' : digB (d :: b) = true := by simp only [digB, Bool.and_eq_true] at hd ⊢; exact hd.2
    have ih := lexc_nil_lt f hf (d :: b) (by simp) hd' (by rw [← last0_cons c]; exact hl)
    rw [List.length_cons]
    unfold lexc
    rw [hf]
    by_cases h48 : 48 < gd (c :: d :: b) 0
    · rw [if_pos h48]
    · rw [if_neg h48, if_neg (by omega), ← ih]
      exact lexc_congr _ _ _ _ _ _ _ (fun m _ => by rw [hf, hf]; exact ⟨rfl, by rw [show 0 + 1 + m = m + 1 by omega, Nat.zero_add]; rfl⟩)

theorem lexc_nil_gt (f : Nat → Nat) (hf : ∀ i, f i = 48) : ∀ (b : List UInt8), b ≠ [] → digB b = true → last0 b = false → lexc (gd b) f b.length 0 = 1
  | [], h, _, _ => absurd rfl h
  | [c], _, hd, hl => by
    have g := digB_get [c] hd 0 (by simp)
    have g' : gd [c] 0 ≠ 48 := by intro e; rw [gd_cons_zero] at e; simp [last0, e] at hl
    simp only [List.length_cons, List.length_nil]
    unfold lexc
    rw [hf, if_neg (by omega), if_pos (by omega)]
  | c :: d :: b, _, hd, hl => by
    have g := digB_get (c :: d :: b) hd 0 (by simp)
    have hd' : digB (d :: b) = true := by simp only [digB, Bool.and_eq_true] at hd ⊢; exact hd.2
    have ih := lexc_nil_gt f hf (d :: b) (by simp) hd' (by rw [← last0_cons c]; exact hl)
    rw [List.length_cons]
    unfold lexc
    rw [hf]
    by_cases h48 : 48 < gd (c :: d :: b) 0
    · rw [if_neg (by omega), if_pos h48]
    · rw [if_neg (by omega), if_neg (by omega), ← ih]
      exact lexc_congr _ _ _ _ _ _ _ (fun m _ => by rw [hf, hf]; exact ⟨by rw [show 0 + 1 + m = m + 1 by omega, Nat.zero_add]; rfl, rfl⟩)

theorem padR_lt (s : List UInt8) (i : Nat) (h : i < s.length) : padR s i = gd s i := by unfold padR; rw [if_pos h]
theorem padR_ge (s : List UInt8) (i : Nat) (h : ¬ i < s.length) : padR s i = 48 := by unfold padR; rw [if_neg h]
theorem padR_cons (c : UInt8) (s : List UInt8) (i : Nat) : padR (c :: s) (i + 1) = padR s i := by
  unfold padR
  simp only [List.length_cons, Nat.add_lt_add_iff_right]
  rfl

theorem last0_tail (c : UInt8) (l : List UInt8) (h : last0 (c :: l) = false) : last0 l = false := by
  cases l with
  | nil => rfl
  | cons d l => exact h

theorem magF_eq : ∀ (a b : List UInt8), digB a = true → digB b = true → last0 a = false → last0 b = false → magF a b = compareBytes a b
  | [], [], _, _, _, _ => rfl
  | [], d :: b, _, h, _, hl => by
    have e := lexc_nil_lt (padR []) (fun i => padR_ge [] i (by simp)) (d :: b) (by simp) h hl
    unfold magF
    have hm : max ([] : List UInt8).length (d :: b).length = (d :: b).length := by simp
    rw [hm, lexc_congr (padR []) (padR (d :: b)) (padR []) (gd (d :: b)) _ 0 0 (fun m hm => ⟨rfl, padR_lt _ _ (by omega)⟩), e]
    rfl
  | c :: a, [], h, _, hl, _ => by
    have e := lexc_nil_gt (padR []) (fun i => padR_ge [] i (by simp)) (c :: a) (by simp) h hl
    unfold magF
    have hm : max (c :: a).length ([] : List UInt8).length = (c :: a).length := by simp
    rw [hm, lexc_congr (padR (c :: a)) (padR []) (gd (c :: a)) (padR []) _ 0 0 (fun m hm => ⟨padR_lt _ _ (by omega), rfl⟩), e]
    rfl
  | c :: a, d :: b, h, h', hl, hl' => by
    have ih := magF_eq a b (by simp only [digB, Bool.and_eq_true] at h; exact h.2) (by simp only [digB, Bool.and_eq_true] at h'; exact h'.2) (last0_tail c a hl) (last0_tail d b hl')
    unfold magF at ih ⊢
    have hm : max (c :: a).length (d :: b).length = max a.length b.length + 1 := by simp only [List.length_cons]; omega
    rw [hm]
    unfold lexc compareBytes
    rw [padR_lt (c :: a) 0 (by simp), padR_lt (d :: b) 0 (by simp), gd_cons_zero, gd_cons_zero, lexc_congr (padR (c :: a)) (padR (d :: b)) (padR a) (padR b) _ (0 + 1) 0 (fun m _ => by
      rw [show 0 + 1 + m = m + 1 by omega, Nat.zero_add]; exact ⟨padR_cons c a m, padR_cons d b m⟩), ih]
    simp only [UInt8.lt_iff_toNat_lt]

theorem nul_nil : nul [] = true := rfl
theorem nul_iff (l : List UInt8) : nul l = true ↔ l = [] := by
  unfold nul; simp
theorem nul_false (l : List UInt8) : nul l = false ↔ l ≠ [] := by
  unfold nul; simp

theorem wf_open {n : Bool} {wh fr : List UInt8} (h : wfB true n wh fr = true) : digB wh = true ∧ digB fr = true ∧ head0 wh = false ∧ last0 fr = false ∧ (n && nul wh && nul fr) = false := by
  simp only [wfB, cond_true, Bool.and_eq_true, Bool.not_eq_true'] at h
  exact ⟨h.1.1.1.1, h.1.1.1.2, h.1.1.2, h.1.2, h.2⟩

/-- Where both are well formed the comparison of magnitudes is the program's own. -/
theorem mag_eq {an bn : Bool} {aw af bw bf : List UInt8} (ha : wfB true an aw af = true) (hb : wfB true bn bw bf = true) : mag aw af bw bf = cmp3 aw af bw bf := by
  obtain ⟨a1, a2, a3, a4, _⟩ := wf_open ha
  obtain ⟨b1, b2, b3, b4, _⟩ := wf_open hb
  unfold mag cmp3
  rw [magF_eq af bf a2 b2 a4 b4]
  unfold compareInt
  by_cases h1 : aw.length < bw.length
  · rw [magW_lt aw bw h1 b1 b3, if_pos (by omega)]
    simp [or2]
  · by_cases h2 : bw.length < aw.length
    · rw [magW_gt aw bw h2 a1 a3, if_neg (by omega), if_pos (by omega)]
      simp [or2]
    · rw [magW_eq aw bw (by omega), if_neg (by omega), if_neg (by omega)]
      simp [or2]

theorem compareBytes_range : ∀ (a b : List UInt8), compareBytes a b = -1 ∨ compareBytes a b = 0 ∨ compareBytes a b = 1
  | [], [] => by simp [compareBytes]
  | [], _ :: _ => by simp [compareBytes]
  | _ :: _, [] => by simp [compareBytes]
  | a :: as, b :: bs => by
    unfold compareBytes
    split
    · simp
    · split
      · simp
      · exact compareBytes_range as bs

theorem compareBytes_anti : ∀ (a b : List UInt8), compareBytes b a = - compareBytes a b
  | [], [] => by simp [compareBytes]
  | [], _ :: _ => by simp [compareBytes]
  | _ :: _, [] => by simp [compareBytes]
  | a :: as, b :: bs => by
    have ih := compareBytes_anti as bs
    unfold compareBytes
    simp only [UInt8.lt_iff_toNat_lt]
    by_cases h1 : a.toNat < b.toNat
    · rw [if_neg (by omega), if_pos h1, if_pos h1]; rfl
    · by_cases h2 : b.toNat < a.toNat
      · rw [if_pos h2, if_neg h1, if_pos h2]
      · rw [if_neg h2, if_neg h1, if_neg h1, if_neg h2, ih]

theorem compareInt_anti (a b : Int) : compareInt b a = - compareInt a b := by
  unfold compareInt
  split <;> split <;> (try split) <;> omega

theorem cmp3_anti (aw af bw bf : List UInt8) : cmp3 bw bf aw af = - cmp3 aw af bw bf := by
  unfold cmp3
  rw [compareInt_anti aw.length bw.length, compareBytes_anti aw bw, compareBytes_anti af bf]
  unfold or2
  split <;> split <;> (try split) <;> (try split) <;> omega

theorem cmp3_self (aw af : List UInt8) : cmp3 aw af aw af = 0 := by
  have := cmp3_anti aw af aw af
  omega

/-- Zero against what is not: below. -/
theorem cmp3_zero {bw bf : List UInt8} (h : (nul bw && nul bf) = false) : cmp3 [] [] bw bf = -1 := by
  unfold cmp3
  cases bw with
  | cons c l =>
    have : compareInt (([] : List UInt8).length : Int) ((c :: l).length : Int) = -1 := by
      unfold compareInt
      rw [if_pos (by simp only [List.length_nil, List.length_cons]; omega)]
    rw [this]
    simp [or2]
  | nil =>
    cases bf with
    | nil => simp [nul] at h
    | cons c l => simp [or2, compareInt, compareBytes]

theorem nul_both {wh fr : List UInt8} (h : (nul wh && nul fr) = true) : wh = [] ∧ fr = [] := by
  simp only [Bool.and_eq_true, nul_iff] at h
  exact h

theorem notAb_eq {ab an : Bool} {aw af : List UInt8} {bb bn : Bool} {bw bf : List UInt8} (ha : wfB ab an aw af = true) (hb : wfB bb bn bw bf = true) :
    notAb ab an aw af bb bn bw bf = endLe ab an aw af bb bn bw bf := by
  cases ab
  · simp [notAb, endLe]
  cases bb
  · simp [notAb, endLe]
  have hm := mag_eq ha hb
  obtain ⟨-, -, -, -, a5⟩ := wf_open ha
  obtain ⟨-, -, -, -, b5⟩ := wf_open hb
  simp only [notAb, endLe, Bool.not_true, Bool.false_or, decLe, hm]
  cases ha0 : (nul aw && nul af)
  · cases hb0 : (nul bw && nul bf)
    · cases an <;> cases bn <;> simp [dcmp, sgn, ha0, hb0]
    · obtain ⟨rfl, rfl⟩ := nul_both hb0
      have hz := cmp3_zero ha0
      have hz' := cmp3_anti [] [] aw af
      rw [hz] at hz'
      cases an <;> cases bn <;> simp [dcmp, sgn, ha0, nul_nil] at b5 ⊢ <;> simp [hz']
  · obtain ⟨rfl, rfl⟩ := nul_both ha0
    cases hb0 : (nul bw && nul bf)
    · have hz := cmp3_zero hb0
      cases an <;> cases bn <;> simp [dcmp, sgn, hb0, nul_nil] at a5 ⊢ <;> simp [hz]
    · obtain ⟨rfl, rfl⟩ := nul_both hb0
      have hz := cmp3_self [] []
      cases an <;> cases bn <;> simp [dcmp, sgn, nul_nil] at a5 b5 ⊢
      simp [hz]

theorem notAb_total (ab an : Bool) (aw af : List UInt8) (bb bn : Bool) (bw bf : List UInt8) :
    (notAb ab an aw af bb bn bw bf || notAb bb bn bw bf ab an aw af) = true := by
  have h := cmp3_anti aw af bw bf
  cases ab <;> cases bb <;> simp [notAb]
  cases an <;> cases bn <;> simp [dcmp, h]
  · omega
  · omega

theorem notAb_mirror {ab an : Bool} {aw af : List UInt8} {bb bn : Bool} {bw bf : List UInt8} (ha : wfB ab an aw af = true) (hb : wfB bb bn bw bf = true) :
    notAb bb (mir bn bw bf) bw bf ab (mir an aw af) aw af = notAb ab an aw af bb bn bw bf := by
  cases ab
  · simp [notAb]
  cases bb
  · simp [notAb]
  obtain ⟨-, -, -, -, a5⟩ := wf_open ha
  obtain ⟨-, -, -, -, b5⟩ := wf_open hb
  have h := cmp3_anti aw af bw bf
  simp only [notAb, Bool.not_true, Bool.false_or]
  cases ha0 : (nul aw && nul af)
  · cases hb0 : (nul bw && nul bf)
    · cases an <;> cases bn <;> simp [dcmp, mir, ha0, hb0, h]
    · obtain ⟨rfl, rfl⟩ := nul_both hb0
      have hz := cmp3_zero ha0
      rw [hz] at h
      cases an <;> cases bn <;> simp [dcmp, mir, ha0, nul_nil] at b5 ⊢ <;> omega
  · obtain ⟨rfl, rfl⟩ := nul_both ha0
    cases hb0 : (nul bw && nul bf)
    · have hz := cmp3_zero hb0
      rw [hz] at h
      cases an <;> cases bn <;> simp [dcmp, mir, hb0, nul_nil] at a5 ⊢ <;> omega
    · obtain ⟨rfl, rfl⟩ := nul_both hb0
      cases an <;> cases bn <;> simp [dcmp, mir, nul_nil] at a5 b5 ⊢

end Go.Proofs.Qxb6614662a.Pl
