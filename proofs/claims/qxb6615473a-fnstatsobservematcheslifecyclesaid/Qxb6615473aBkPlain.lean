import Derived.Lib.BitFns
namespace Go.Proofs.Qxb6615473a
open Go

theorem aux_lt : ∀ (f x : Nat), x < 2 ^ f → x < 2 ^ Lib.bitLenAux f x ∧ (x = 0 ∨ 2 ^ Lib.bitLenAux f x ≤ 2 * x)
  | 0, x, h => by
    have : x = 0 := by simpa using h
    subst this
    simp [Lib.bitLenAux]
  | f + 1, x, h => by
    unfold Lib.bitLenAux
    by_cases e : x = 0
    · subst e; simp
    · rw [if_neg e]
      have hx : x / 2 < 2 ^ f := by rw [Nat.pow_succ] at h; omega
      obtain ⟨h1, h2⟩ := aux_lt f (x / 2) hx
      rw [Nat.add_comm 1, Nat.pow_succ]
      refine ⟨by omega, Or.inr ?_⟩
      rcases h2 with h2 | h2
      · have h3 : Lib.bitLenAux f 0 = 0 := by cases f <;> simp [Lib.bitLenAux]
        rw [h2, h3]
        simp
        omega
      · omega
theorem bitLen_lt (x : Nat) (h : x < 2 ^ 64) : x < 2 ^ Lib.bitLen x := (aux_lt 64 x h).1
theorem bitLen_ge (x : Nat) (h : x < 2 ^ 64) (h0 : x ≠ 0) : 2 ^ Lib.bitLen x ≤ 2 * x := ((aux_lt 64 x h).2).resolve_left h0

/-- The number of the bucket of the wait d. -/
def sft (d : Nat) : Nat := Lib.bitLen d - 6
def bkt (d : Nat) : Nat := 32 * sft d + d / 2 ^ sft d
def lo (b : Nat) : Nat := if b < 64 then b else (b % 32 + 32) * 2 ^ (b / 32 - 1)
def hi (b : Nat) : Nat := if b < 64 then b + 1 else (b % 32 + 32 + 1) * 2 ^ (b / 32 - 1)

theorem sft_zero (d : Nat) (h : d < 64) : sft d = 0 := by
  unfold sft
  by_cases e : d = 0
  · subst e; simp [Lib.bitLen, Lib.bitLenAux]
  · have h1 := bitLen_ge d (by omega) e
    have h2 : 2 ^ Lib.bitLen d < 2 ^ 7 := by omega
    have := (Nat.pow_lt_pow_iff_right (by omega : 1 < 2)).1 h2
    omega
theorem sft_pos (d : Nat) (h : 64 ≤ d) (h2 : d < 2 ^ 63) : 1 ≤ sft d ∧ sft d ≤ 57 ∧ 32 * 2 ^ sft d ≤ d ∧ d < 64 * 2 ^ sft d := by
  have a := bitLen_lt d (by omega)
  have b := bitLen_ge d (by omega) (by omega)
  have c : 2 ^ 6 < 2 ^ Lib.bitLen d := by omega
  have c' := (Nat.pow_lt_pow_iff_right (by omega : 1 < 2)).1 c
  have e : 2 ^ Lib.bitLen d < 2 ^ 64 := by omega
  have e' := (Nat.pow_lt_pow_iff_right (by omega : 1 < 2)).1 e
  have f : Lib.bitLen d = sft d + 6 := by unfold sft; omega
  rw [f, Nat.pow_add] at a b
  unfold sft at *
  refine ⟨by omega, by omega, by omega, by omega⟩
theorem sft_le (d : Nat) (h2 : d < 2 ^ 63) : sft d ≤ 57 := by
  rcases Nat.lt_or_ge d 64 with h | h
  · rw [sft_zero d h]; omega
  · exact (sft_pos d h h2).2.1
theorem quo_lt (d : Nat) (h2 : d < 2 ^ 63) : d / 2 ^ sft d < 64 := by
  rcases Nat.lt_or_ge d 64 with h | h
  · rw [sft_zero d h]; simpa using h
  · have := (sft_pos d h h2).2.2.2
    exact (Nat.div_lt_iff_lt_mul (Nat.pow_pos (by omega))).2 this
theorem bkt_lt (d : Nat) (h2 : d < 2 ^ 63) : bkt d < 1888 := by
  have := sft_le d h2
  have := quo_lt d h2
  unfold bkt
  omega

theorem pow_step {a b : Nat} (h : a < b) : 2 * 2 ^ a ≤ 2 ^ b := by
  have : 2 ^ (a + 1) ≤ 2 ^ b := Nat.pow_le_pow_right (by omega) h
  rw [Nat.pow_succ] at this
  omega

/-- WHICH WAITS A BUCKET HOLDS. -/
theorem bkt_iff (b d : Nat) (h2 : d < 2 ^ 63) : bkt d = b ↔ lo b ≤ d ∧ d < hi b := by
  rcases Nat.lt_or_ge d 64 with h | h
  · have e : bkt d = d := by unfold bkt; rw [sft_zero d h]; simp
    rw [e]
    unfold lo hi
    by_cases hb : b < 64
    · rw [if_pos hb, if_pos hb]; omega
    · rw [if_neg hb, if_neg hb]
      constructor
      · intro e; omega
      · rintro ⟨h3, _⟩
        have h4 : 2 ^ 1 ≤ 2 ^ (b / 32 - 1) := Nat.pow_le_pow_right (by omega) (by omega)
        have h5 : 32 * 2 ≤ (b % 32 + 32) * 2 ^ (b / 32 - 1) := Nat.mul_le_mul (by omega) (by omega)
        omega
  · obtain ⟨s1, s2, s3, s4⟩ := sft_pos d h h2
    have q1 : 32 ≤ d / 2 ^ sft d := (Nat.le_div_iff_mul_le (Nat.pow_pos (by omega))).2 s3
    have q2 : d / 2 ^ sft d < 64 := quo_lt d h2
    unfold lo hi
    by_cases hb : b < 64
    · rw [if_pos hb, if_pos hb]
      unfold bkt
      omega
    · rw [if_neg hb, if_neg hb]
      have hs : ∀ t m : Nat, 32 ≤ m → m < 64 → m * 2 ^ t ≤ d → d < (m + 1) * 2 ^ t → t = sft d ∧ m = d / 2 ^ sft d := by
        intro t m m1 m2 hl hh
        have e : t = sft d := by
          rcases Nat.lt_trichotomy t (sft d) with k | k | k
          · have k1 := pow_step k
            have k2 : (m + 1) * 2 ^ t ≤ 64 * 2 ^ t := Nat.mul_le_mul_right _ (by omega)
            omega
          · exact k
          · have k1 := pow_step k
            have k2 : 32 * 2 ^ t ≤ m * 2 ^ t := Nat.mul_le_mul_right _ (by omega)
            omega
        subst e
        exact ⟨rfl, (Nat.div_eq_of_lt_le hl hh).symm⟩
      constructor
      · intro e
        unfold bkt at e
        have e1 : sft d = b / 32 - 1 := by omega
        have e2 : d / 2 ^ sft d = b % 32 + 32 := by omega
        have e3 := Nat.div_add_mod d (2 ^ sft d)
        have e4 := Nat.mod_lt d (Nat.pow_pos (a := 2) (n := sft d) (by omega))
        rw [← e1, ← e2]
        refine ⟨Nat.div_mul_le_self d _, ?_⟩
        rw [Nat.add_mul, Nat.mul_comm]
        omega
      · rintro ⟨hl, hh⟩
        obtain ⟨e1, e2⟩ := hs (b / 32 - 1) (b % 32 + 32) (by omega) (by omega) hl hh
        unfold bkt
        omega
end Go.Proofs.Qxb6615473a
