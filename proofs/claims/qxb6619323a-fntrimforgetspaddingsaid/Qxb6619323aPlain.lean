/- The plain law of trimming: no Go in sight. -/
namespace Go.Proofs.Qxb6619323a.Plain

/-- At most n trailing zeros dropped. -/
def trim : Nat → Int → Int → Int × Int
  | 0, u, p => (u, p)
  | n + 1, u, p => if u % 10 = 0 then trim n (u / 10) (p - 1) else (u, p)

theorem trim_step {n : Nat} {u p : Int} (h : u % 10 = 0) : trim (n + 1) u p = trim n (u / 10) (p - 1) := by rw [trim, if_pos h]
theorem trim_stop {n : Nat} {u p : Int} (h : ¬ u % 10 = 0) : trim n u p = (u, p) := by
  cases n with
  | zero => rfl
  | succ n => rw [trim, if_neg h]

/-- What trimming is: d zeros are dropped; it stops at n or at a last digit that is not 0. -/
theorem trim_is : ∀ (n : Nat) (u p : Int), ∃ d : Nat, d ≤ n ∧ (trim n u p).2 = p - d ∧ u = (trim n u p).1 * 10 ^ d ∧ (d = n ∨ ¬ (trim n u p).1 % 10 = 0) := by
  intro n
  induction n with
  | zero => intro u p; exact ⟨0, Nat.le_refl _, by simp [trim], by simp [trim], Or.inl rfl⟩
  | succ n ih =>
    intro u p
    by_cases h : u % 10 = 0
    · rw [trim_step h]
      obtain ⟨d, h1, h2, h3, h4⟩ := ih (u / 10) (p - 1)
      refine ⟨d + 1, by omega, by rw [h2]; push_cast; omega, ?_, ?_⟩
      · rw [Int.pow_succ, ← Int.mul_assoc, ← h3]; omega
      · rcases h4 with h4 | h4
        · exact Or.inl (by omega)
        · exact Or.inr h4
    · rw [trim_stop h]
      exact ⟨0, by omega, by simp, by simp, Or.inr h⟩

/-- n zeros at most and then m more. -/
theorem trim_add : ∀ (n m : Nat) (u p : Int), trim (n + m) u p = (if (trim n u p).2 = p - n then trim m (trim n u p).1 (trim n u p).2 else trim n u p) := by
  intro n
  induction n with
  | zero => intro m u p; simp [trim]
  | succ n ih =>
    intro m u p
    by_cases h : u % 10 = 0
    · rw [trim_step h, show n + 1 + m = (n + m) + 1 by omega, trim_step h, ih]
      have e : (p - 1 - (n : Int)) = p - ((n + 1 : Nat) : Int) := by push_cast; omega
      rw [e]
    · rw [trim_stop h, trim_stop h, if_neg (by push_cast; omega)]

/-- The padded form. -/
theorem trim_pad : ∀ (e n : Nat) (u p : Int), trim (n + e) (u * 10 ^ e) (p + e) = trim n u p := by
  intro e
  induction e with
  | zero => intro n u p; simp
  | succ e ih =>
    intro n u p
    have h0 : u * 10 ^ (e + 1) = (u * 10 ^ e) * 10 := by rw [Int.pow_succ, Int.mul_assoc]
    rw [h0, show n + (e + 1) = (n + e) + 1 by omega, trim_step (by omega), Int.mul_ediv_cancel _ (by omega),
      show p + ((e + 1 : Nat) : Int) - 1 = p + e by push_cast; omega]
    exact ih n u p

/-- The units and the places. -/
def tU (u p m : Int) : Int := (trim (p - m).toNat u p).1
def tP (u p m : Int) : Int := (trim (p - m).toNat u p).2

/-- Trimmed to m: d zeros are dropped. -/
theorem t_is (u p m : Int) : ∃ d : Nat, tP u p m = p - d ∧ u = tU u p m * 10 ^ d ∧ (d = 0 ∨ m ≤ tP u p m) ∧ (tP u p m ≤ m ∨ ¬ tU u p m % 10 = 0) ∧ (d : Int) ≤ (p - m).toNat := by
  obtain ⟨d, h1, h2, h3, h4⟩ := trim_is (p - m).toNat u p
  refine ⟨d, h2, h3, ?_, ?_, by omega⟩
  · unfold tP
    rw [h2]; omega
  · unfold tP tU
    rw [h2]
    rcases h4 with h4 | h4
    · exact Or.inl (by omega)
    · exact Or.inr h4

theorem t_pad (u p m : Int) (e : Nat) (h : m ≤ p) : tU (u * 10 ^ e) (p + e) m = tU u p m ∧ tP (u * 10 ^ e) (p + e) m = tP u p m := by
  unfold tU tP
  have he : (p + (e : Int) - m).toNat = (p - m).toNat + e := by omega
  rw [he, trim_pad]
  exact ⟨rfl, rfl⟩

/-- First to j, then to k: as once to the lesser. -/
theorem t_comp (u p j k m : Int) (hm : m = if k < j then k else j) : tU (tU u p j) (tP u p j) k = tU u p m ∧ tP (tU u p j) (tP u p j) k = tP u p m := by
  have key : trim (tP u p j - k).toNat (tU u p j) (tP u p j) = trim (p - m).toNat u p := by
    obtain ⟨d, h1, h2, h3, h4⟩ := trim_is (p - j).toNat u p
    have hP : tP u p j = p - d := h2
    have hU : tU u p j = (trim (p - j).toNat u p).1 := rfl
    have hpair : (tU u p j, tP u p j) = trim (p - j).toNat u p := rfl
    by_cases hkj : k < j
    · rw [if_pos hkj] at hm
      subst hm
      by_cases hjp : j ≤ p
      · have hs : (p - m).toNat = (p - j).toNat + (j - m).toNat := by omega
        rw [hs, trim_add]
        by_cases hd : d = (p - j).toNat
        · rw [if_pos (by rw [h2, hd])]
          show trim (tP u p j - m).toNat (tU u p j) (tP u p j) = trim (j - m).toNat (tU u p j) (tP u p j)
          rw [hP]
          congr 1
          omega
        · rw [if_neg (by rw [h2]; omega), ← hpair]
          have h5 : ¬ tU u p j % 10 = 0 := by rw [hU]; rcases h4 with h4 | h4; · exact absurd h4 hd
                                              · exact h4
          exact trim_stop h5
      · have e0 : (p - j).toNat = 0 := by omega
        have eU : tU u p j = u := by unfold tU; rw [e0]; rfl
        have eP : tP u p j = p := by unfold tP; rw [e0]; rfl
        rw [eU, eP]
    · rw [if_neg hkj] at hm
      subst hm
      rw [← hpair]
      rcases h4 with h4 | h4
      · have : (tP u p m - k).toNat = 0 := by rw [hP]; omega
        rw [this]; rfl
      · exact trim_stop h4
  unfold tU tP at key ⊢
  rw [key]
  exact ⟨rfl, rfl⟩

/-- The power of ten. -/
def ten (d : Nat) : Int := 10 ^ d
theorem ten_pos (d : Nat) : 1 ≤ ten d := by
  unfold ten
  have : (0 : Int) < 10 ^ d := Int.pow_pos (by decide)
  omega
theorem ten_succ (d : Nat) : ten (d + 1) = ten d * 10 := by unfold ten; rw [Int.pow_succ]
theorem ten_mono {d e : Nat} (h : d ≤ e) : ten d ≤ ten e := by
  induction e with
  | zero => have : d = 0 := by omega
            subst this; exact Int.le_refl _
  | succ e ih =>
    by_cases hd : d ≤ e
    · have := ih hd
      have hp := ten_pos e
      rw [ten_succ]; omega
    · have : d = e + 1 := by omega
      subst this; exact Int.le_refl _
theorem ten_18 : ten 18 = 1000000000000000000 := by decide
theorem ten_19 : ten 19 = 10000000000000000000 := by decide

/-- A nonzero int64 has at most 18 trailing zeros. -/
theorem few_zeros {u r : Int} {d : Nat} (h : u = r * ten d) (hu : ¬ u = 0) (h1 : -9223372036854775808 ≤ u) (h2 : u ≤ 9223372036854775807) : d ≤ 18 := by
  by_cases hd : d ≤ 18
  · exact hd
  · exfalso
    have hm : ten 19 ≤ ten d := ten_mono (by omega)
    rw [ten_19] at hm
    have hr : r ≠ 0 := by rintro rfl; simp at h; exact hu h
    have hp := ten_pos d
    rcases Int.lt_or_gt_of_ne hr with hn | hn
    · have : r * ten d ≤ (-1) * ten d := Int.mul_le_mul_of_nonneg_right (by omega) (by omega)
      omega
    · have : 1 * ten d ≤ r * ten d := Int.mul_le_mul_of_nonneg_right (by omega) (by omega)
      omega

theorem inside {u r : Int} {d : Nat} (h : u = r * ten d) (h1 : -9223372036854775808 ≤ u) (h2 : u ≤ 9223372036854775807) : -9223372036854775808 ≤ r ∧ r ≤ 9223372036854775807 := by
  have hp := ten_pos d
  constructor
  · by_cases hr : 0 ≤ r
    · omega
    · have : r * ten d ≤ r * 1 := Int.mul_le_mul_of_nonpos_left (by omega) hp
      omega
  · by_cases hr : 0 ≤ r
    · have : r * 1 ≤ r * ten d := Int.mul_le_mul_of_nonneg_left hp hr
      omega
    · omega

theorem div_ten {u r : Int} {d : Nat} (h : u = r * ten d) : u.tmod (ten d) = 0 ∧ u.tdiv (ten d) = r := by
  have hp := ten_pos d
  subst h
  exact ⟨Int.mul_tmod_left _ _, Int.mul_tdiv_cancel _ (by omega)⟩

/-- Within the quotients the product fits. -/
theorem fits {u W : Int} (hW : 1 ≤ W) (h1 : u ≤ (9223372036854775807 : Int).tdiv W) (h2 : (-9223372036854775808 : Int).tdiv W ≤ u) :
    -9223372036854775808 ≤ u * W ∧ u * W ≤ 9223372036854775807 := by
  constructor
  · have e : (-9223372036854775808 : Int).tdiv W = -((9223372036854775808 : Int) / W) := by
      rw [Int.neg_tdiv, Int.tdiv_eq_ediv_of_nonneg (by omega)]
    rw [e] at h2
    have h3 : (9223372036854775808 : Int) / W * W ≤ 9223372036854775808 := Int.ediv_mul_le _ (by omega)
    have h4 : (-((9223372036854775808 : Int) / W)) * W ≤ u * W := Int.mul_le_mul_of_nonneg_right h2 (by omega)
    rw [Int.neg_mul] at h4
    omega
  · rw [Int.tdiv_eq_ediv_of_nonneg (by omega)] at h1
    have h3 : (9223372036854775807 : Int) / W * W ≤ 9223372036854775807 := Int.ediv_mul_le _ (by omega)
    have h4 : u * W ≤ (9223372036854775807 : Int) / W * W := Int.mul_le_mul_of_nonneg_right h1 (by omega)
    omega

end Go.Proofs.Qxb6619323a.Plain
