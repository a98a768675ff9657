/- The plain law of the quoted text's end: no Go in sight. -/
namespace Go.Proofs.Qxb6618468a.Plain

/-- The scan that skips the byte behind a backslash: the bytes from place i on. -/
def sk (q : UInt8) : List UInt8 → Nat → Option Nat
  | [], _ => none
  | [c], i => if c = q then some (i + 1) else none
  | c :: d :: r, i => if c = q then some (i + 1) else if c = 92 then sk q r (i + 2) else sk q (d :: r) (i + 1)

/-- The scan by parity: 'ev' says that the run of backslashes just before is even. -/
def par (q : UInt8) : List UInt8 → Bool → Nat → Option Nat
  | [], _, _ => none
  | c :: r, ev, i => if c = q ∧ ev = true then some (i + 1) else par q r (if c = 92 then !ev else true) (i + 1)

theorem sk_cons (q c : UInt8) (r : List UInt8) (i : Nat) :
    sk q (c :: r) i = if c = q then some (i + 1) else if c = 92 then sk q (r.drop 1) (i + 2) else sk q r (i + 1) := by
  cases r with
  | nil => simp [sk]
  | cons d r => simp [sk]

theorem sk_hit {q c : UInt8} {r : List UInt8} {i : Nat} (h : c = q) : sk q (c :: r) i = some (i + 1) := by
  rw [sk_cons, if_pos h]
theorem sk_skip {q c : UInt8} {r : List UInt8} {i : Nat} (h : ¬ c = q) (h2 : c = 92) : sk q (c :: r) i = sk q (r.drop 1) (i + 2) := by
  rw [sk_cons, if_neg h, if_pos h2]
theorem sk_step {q c : UInt8} {r : List UInt8} {i : Nat} (h : ¬ c = q) (h2 : ¬ c = 92) : sk q (c :: r) i = sk q r (i + 1) := by
  rw [sk_cons, if_neg h, if_neg h2]

theorem par_hit {q c : UInt8} {r : List UInt8} {i : Nat} {ev : Bool} (h : c = q) (h2 : ev = true) : par q (c :: r) ev i = some (i + 1) := by
  rw [par, if_pos ⟨h, h2⟩]
theorem par_run {q c : UInt8} {r : List UInt8} {i : Nat} {ev : Bool} (h : ¬ (c = q ∧ ev = true)) (h2 : c = 92) : par q (c :: r) ev i = par q r (!ev) (i + 1) := by
  rw [par, if_neg h, if_pos h2]
theorem par_step {q c : UInt8} {r : List UInt8} {i : Nat} {ev : Bool} (h : ¬ (c = q ∧ ev = true)) (h2 : ¬ c = 92) : par q (c :: r) ev i = par q r true (i + 1) := by
  rw [par, if_neg h, if_neg h2]
theorem not_even (r : Nat) : (!decide (r % 2 = 0)) = decide ((r + 1) % 2 = 0) := by
  rw [Bool.eq_iff_iff]; simp; omega

theorem sk_par (q : UInt8) : ∀ (n : Nat) (l : List UInt8) (i : Nat), l.length ≤ n → sk q l i = par q l true i := by
  intro n
  induction n with
  | zero => intro l i h; cases l with
    | nil => rfl
    | cons c r => simp at h
  | succ n ih =>
    intro l i h
    cases l with
    | nil => rfl
    | cons c r =>
      simp only [List.length_cons] at h
      by_cases h1 : c = q
      · rw [sk_hit h1]; simp [par, h1]
      · by_cases h2 : c = 92
        · rw [sk_skip h1 h2]
          cases r with
          | nil => simp [par, sk, h2]
                   intro h3; exact absurd (h2.trans h3) h1
          | cons d r2 =>
            simp only [List.drop_succ_cons, List.drop_zero, List.length_cons] at h ⊢
            rw [ih r2 (i + 2) (by omega)]
            simp [par, h2]
            intro h3; exact absurd (h2.trans h3) h1
        · rw [sk_step h1 h2, ih r (i + 1) (by omega)]
          simp [par, h1, h2]

theorem sk_lt (q : UInt8) : ∀ (n : Nat) (l : List UInt8) (i m : Nat), l.length ≤ n → sk q l i = some m → i < m ∧ m ≤ i + l.length := by
  intro n
  induction n with
  | zero => intro l i m h hs; cases l with
    | nil => simp [sk] at hs
    | cons c r => simp at h
  | succ n ih =>
    intro l i m h hs
    cases l with
    | nil => simp [sk] at hs
    | cons c r =>
      simp only [List.length_cons] at h ⊢
      by_cases h1 : c = q
      · rw [sk_hit h1] at hs; injection hs with hs; omega
      · by_cases h2 : c = 92
        · rw [sk_skip h1 h2] at hs
          have := ih (r.drop 1) (i + 2) m (by simp; omega) hs
          simp only [List.length_drop] at this
          cases r with
          | nil => simp [sk] at hs
          | cons d r2 => simp only [List.length_cons] at this ⊢; omega
        · rw [sk_step h1 h2] at hs
          have := ih r (i + 1) m (by omega) hs
          omega

theorem filt_no {m k : Nat} (h : ¬ m ≤ k) : (some m).filter (fun m => decide (m ≤ k)) = none := by
  simp [Option.filter, h]
theorem filt_yes {m k : Nat} (h : m ≤ k) : (some m).filter (fun m => decide (m ≤ k)) = some m := by
  simp [Option.filter, h]

/-- The cut: the first part keeps the answer that lies within it. -/
theorem sk_take (q : UInt8) : ∀ (n : Nat) (l : List UInt8) (i k : Nat), l.length ≤ n →
    sk q (l.take k) i = (sk q l i).filter (fun m => decide (m ≤ i + k)) := by
  intro n
  induction n with
  | zero => intro l i k h; cases l with
    | nil => simp [sk]
    | cons c r => simp at h
  | succ n ih =>
    intro l i k h
    cases l with
    | nil => simp [sk]
    | cons c r =>
      cases k with
      | zero =>
        simp only [List.take_zero, Nat.add_zero]
        cases hs : sk q (c :: r) i with
        | none => simp [sk]
        | some m =>
          have := sk_lt q _ _ _ _ (Nat.le_refl _) hs
          rw [filt_no (by omega)]; rfl
      | succ k =>
        simp only [List.length_cons] at h
        rw [List.take_succ_cons]
        by_cases h1 : c = q
        · rw [sk_hit h1, sk_hit h1, filt_yes (by omega)]
        · by_cases h2 : c = 92
          · rw [sk_skip h1 h2, sk_skip h1 h2, List.drop_take, ih (r.drop 1) (i + 2) (k - 1) (by simp; omega)]
            cases k with
            | zero =>
              cases hs : sk q (r.drop 1) (i + 2) with
              | none => rfl
              | some m =>
                have := sk_lt q _ _ _ _ (Nat.le_refl _) hs
                rw [filt_no (by omega), filt_no (by omega)]
            | succ k => rw [show i + 2 + (k + 1 - 1) = i + (k + 1 + 1) by omega]
          · rw [sk_step h1 h2, sk_step h1 h2, ih r (i + 1) k (by omega), show i + 1 + k = i + (k + 1) by omega]

/-- What the scan of the whole text answers: of the bytes behind the first, from place 1 on. -/
def qe : List UInt8 → Option Nat
  | [] => none
  | q :: r => sk q r 1

def numOf (o : Option Nat) : Int := (o.getD 0 : Nat)
def okOf (o : Option Nat) : Bool := o.isSome

theorem qe_take (l : List UInt8) (k : Nat) : qe (l.take k) = (qe l).filter (fun m => decide (m ≤ k)) := by
  cases l with
  | nil => simp [qe]
  | cons q r =>
    cases k with
    | zero =>
      simp only [List.take_zero, qe]
      cases hs : sk q r 1 with
      | none => rfl
      | some m =>
        have := sk_lt q _ _ _ _ (Nat.le_refl _) hs
        rw [filt_no (by omega)]
    | succ k =>
      rw [List.take_succ_cons]
      simp only [qe]
      rw [sk_take q _ r 1 k (Nat.le_refl _), show 1 + k = k + 1 by omega]

theorem qe_bound (l : List UInt8) : 0 ≤ numOf (qe l) ∧ numOf (qe l) ≤ l.length := by
  unfold numOf
  cases l with
  | nil => simp [qe]
  | cons q r =>
    simp only [qe]
    cases hs : sk q r 1 with
    | none => simp; omega
    | some m =>
      have := sk_lt q _ _ _ _ (Nat.le_refl _) hs
      simp; omega

/-- inside the cut -/
theorem cut_in {l : List UInt8} {k : Nat} (h1 : okOf (qe l) = true) (h2 : numOf (qe l) ≤ k) : qe (l.take k) = qe l := by
  rw [qe_take]
  unfold okOf numOf at *
  cases hq : qe l with
  | none => simp [hq] at h1
  | some m => simp [hq] at h2 ⊢; omega
/-- beyond the cut -/
theorem cut_out {l : List UInt8} {k : Nat} (h : ¬ (okOf (qe l) = true ∧ numOf (qe l) ≤ k)) : qe (l.take k) = none := by
  rw [qe_take]
  unfold okOf numOf at *
  cases hq : qe l with
  | none => rfl
  | some m => simp [hq] at h ⊢; omega

end Go.Proofs.Qxb6618468a.Plain
