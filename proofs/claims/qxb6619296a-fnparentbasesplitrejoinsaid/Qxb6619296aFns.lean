import Derived.Test.Qxb6619296aBase
namespace Go.Proofs.Qxb6619296a
open Go.RowKit

/-- What zzLeft hands back: -1, or what is left. -/
def LeftOk (B : Int) (n : Nat) (e : Ending) : Prop := ∃ r : Int, e = .returned (.int .i64 r) ∧ -1 ≤ r ∧ r ≤ 1048576 ∧ (0 ≤ r → 0 ≤ B ∧ 16 * (n : Int) ≤ B)
theorem leftNo (B : Int) (n : Nat) : LeftOk B n (.returned (.int .i64 (-1))) := ⟨-1, rfl, by omega, by omega, by omega⟩
theorem leftYes (B : Int) (n : Nat) (r : Int) (h0 : 0 ≤ r) (h1 : 16 * (n : Int) ≤ B) (h2 : 0 ≤ B) (h3 : r ≤ 1048576) : LeftOk B n (.returned (.int .i64 r)) :=
  ⟨r, rfl, by omega, by omega, by omega⟩

set_option maxHeartbeats 400000 in
theorem left_any (B : Int) (u : ByteArray) (a : Option Addr) (n cap : Nat) (f : Nat → ByteArray) (w : World) (hB1 : -1 ≤ B) (hB2 : B ≤ 1048576) (h : Row w a n f) :
    Calls Try.prog 8 #[.int .i64 B, .string u, .slice a n cap] w fun e w' => LeftOk B n e ∧ w' = w := by
  by_cases hB : B < 0
  · go_enter Try.func8, Try.ntmps8
    go_wp2
    go_ret
    exact ⟨leftNo _ _, rfl⟩
  · by_cases hu : B < u.size
    · go_enter Try.func8, Try.ntmps8
      go_wp2
      go_ret
      exact ⟨leftNo _ _, rfl⟩
    · go_enter Try.func8, Try.ntmps8
      go_wp2
      all_goals try (go_ret; exact ⟨leftNo _ _, rfl⟩)
      go_loop [0, 7] (fun z i => ∃ (k : Nat) (r : Int), k ≤ n ∧ 0 ≤ r ∧ r ≤ B ∧ i = .int .i64 k ∧ z = .int .i64 r) (fun _ i => n - (intOf i).toNat)
      case atStart => exact ⟨0, B - u.size - 16 * n, Nat.zero_le _, by omega, by omega, rfl, by go_num⟩
      case round =>
        obtain ⟨k, r, hk, hr0, hr1, rfl, rfl⟩ := hrel
        by_cases hlt : k < n
        · obtain ⟨b, off, rfl, hc⟩ := h (by omega)
          have hck := hc k hlt
          clear hc h
          go_wp2
          all_goals try (go_ret; exact ⟨leftNo _ _, rfl⟩)
          go_round
          case rel => exact ⟨k + 1, r - (f k).size, by omega, by omega, by omega, by go_num, by go_num⟩
          case measure => simp [intOf]; omega
        · go_wp2
          go_ret
          exact ⟨leftYes _ _ _ (by omega) (by omega) (by omega) (by omega), rfl⟩

theorem str_eq (x y : ByteArray) : (x.toList == y.toList) = decide (x = y) := by
  rw [Bool.eq_iff_iff]
  simp only [beq_iff_eq, decide_eq_true_eq, ByteArray.toList_eq]
  constructor
  · intro h
    cases x; cases y
    simp only [ByteArray.mk.injEq] at h ⊢
    exact Array.toList_inj.mp h
  · rintro rfl; rfl

/-- zzEqual -/
def eqB (n m : Nat) (f g : Nat → ByteArray) : Bool := decide (n = m ∧ ∀ i, i < n → f i = g i)
theorem eqB_no {n : Nat} {f g : Nat → ByteArray} {k : Nat} (hk : k < n) (h : (!(f k).toList == (g k).toList) = true) : eqB n n f g = false := by
  rw [str_eq] at h
  simp only [Bool.not_eq_true', decide_eq_false_iff_not] at h
  unfold eqB
  simp only [decide_eq_false_iff_not]
  exact fun hh => h (hh.2 k hk)
theorem eq_next {f g : Nat → ByteArray} {k : Nat} (hall : ∀ j, j < k → f j = g j) (h : (!(f k).toList == (g k).toList) = false) : ∀ j, j < k + 1 → f j = g j := by
  rw [str_eq] at h
  simp only [Bool.not_eq_false', decide_eq_true_eq] at h
  intro j hj
  by_cases hjk : j = k
  · rw [hjk]; exact h
  · exact hall j (by omega)
theorem eqB_yes {n : Nat} {f g : Nat → ByteArray} (h : ∀ j, j < n → f j = g j) : eqB n n f g = true := by
  unfold eqB
  simp only [decide_eq_true_eq, true_and]
  exact h
theorem ret_bool {x y : Bool} (h : x = y) : Ending.returned (.bool x) = .returned (.bool y) := by rw [h]

set_option maxHeartbeats 400000 in
theorem equal_any (a : Option Addr) (n cap : Nat) (f : Nat → ByteArray) (a' : Option Addr) (m cap' : Nat) (g : Nat → ByteArray) (w : World) (hn : n ≤ 1048576) (h : Row w a n f) (h' : Row w a' m g) :
    Calls Try.prog 12 #[.slice a n cap, .slice a' m cap'] w fun e w' => e = .returned (.bool (eqB n m f g)) ∧ ∃ q, w' = w.drewN q := by
  by_cases hnm : n = m
  · subst hnm
    go_enter Try.func12, Try.ntmps12
    go_wp2
    go_loopw [5] (fun i wr => ∃ k q : Nat, k ≤ n ∧ i = .int .i64 k ∧ wr = w.drewN q ∧ ∀ j, j < k → f j = g j) (fun i _ => n - (intOf i).toNat)
    case atStart => exact ⟨0, 0, Nat.zero_le _, rfl, rfl, fun j hj => absurd hj (Nat.not_lt_zero _)⟩
    case round =>
      obtain ⟨k, q, hk, rfl, rfl, hall⟩ := hrel
      have HA : Hid (∀ j, j < k → f j = g j) := hall
      clear hall
      by_cases hlt : k < n
      · obtain ⟨b, off, rfl, hc⟩ := h (by omega)
        obtain ⟨b', off', rfl, hc'⟩ := h' (by omega)
        have hck := hc k hlt
        have hck' := hc' k hlt
        clear hc hc' h h'
        go_wp2
        go_quiet (fail)
        go_wp2
        · have ht : (!(f k).toList == (g k).toList) = true := by assumption
          go_ret
          exact ⟨ret_bool (eqB_no hlt ht).symm, q + nq, World.drewN_drewN _ _ _⟩
        · have ht : (!(f k).toList == (g k).toList) = false := by assumption
          go_roundw
          case rel => exact ⟨k + 1, _, by omega, by go_num, rfl, eq_next HA.out ht⟩
          case measure => simp [intOf]; omega
      · have hkn : Hid (k = n) := by show k = n; omega
        go_wp2
        go_ret
        exact ⟨ret_bool (eqB_yes (hkn.out ▸ HA.out)).symm, _, rfl⟩
  · have hne : ((n : Int) != (m : Int)) = true := by simp; omega
    go_enter Try.func12, Try.ntmps12
    go_wp2
    go_ret
    exact ⟨by simp [eqB, hnm], 0, rfl⟩

/-- Contains: p = (pu, n, f), q = (qu, m, g). -/
def conB (pu : ByteArray) (n : Nat) (f : Nat → ByteArray) (qu : ByteArray) (m : Nat) (g : Nat → ByteArray) : Bool := decide (qu = pu ∧ n ≤ m ∧ ∀ i, i < n → g i = f i)

theorem cell_lt {w : World} {b o : Nat} {v : Value} (h : w.cell? ⟨b, o, none⟩ = some v) : b < w.heap.size := by
  by_cases hlt : b < w.heap.size
  · exact hlt
  · exfalso
    have : w.heap[b]? = none := by simp; omega
    simp [World.cell?, this] at h

theorem conB_user {pu qu : ByteArray} {n m : Nat} {f g : Nat → ByteArray} (h : (qu.toList == pu.toList) = false) : conB pu n f qu m g = false := by
  rw [str_eq] at h
  simp only [decide_eq_false_iff_not] at h
  unfold conB
  simp only [decide_eq_false_iff_not]
  exact fun hh => h hh.1
theorem conB_short {pu qu : ByteArray} {n m : Nat} {f g : Nat → ByteArray} (h : ¬ n ≤ m) : conB pu n f qu m g = false := by
  unfold conB
  simp only [decide_eq_false_iff_not]
  exact fun hh => h hh.2.1
theorem conB_no {pu qu : ByteArray} {n m k : Nat} {f g : Nat → ByteArray} (hk : k < n) (h : (!(g k).toList == (f k).toList) = true) : conB pu n f qu m g = false := by
  rw [str_eq] at h
  simp only [Bool.not_eq_true', decide_eq_false_iff_not] at h
  unfold conB
  simp only [decide_eq_false_iff_not]
  exact fun hh => h (hh.2.2 k hk)
theorem conB_yes {pu qu : ByteArray} {n m : Nat} {f g : Nat → ByteArray} (h : (qu.toList == pu.toList) = true) (hn : n ≤ m) (hall : ∀ j, j < n → g j = f j) : conB pu n f qu m g = true := by
  rw [str_eq] at h
  simp only [decide_eq_true_eq] at h
  unfold conB
  simp only [decide_eq_true_eq]
  exact ⟨h, hn, hall⟩

theorem two_new (w : World) (x y : Obj) : Below w.heap.size w ((w.alloc x).alloc y) :=
  ((Below.refl _ _).alloc (Nat.le_refl _) _).alloc (by simp) _

set_option maxHeartbeats 400000 in
theorem contains_any (pu : ByteArray) (a : Option Addr) (n cap : Nat) (f : Nat → ByteArray) (qu : ByteArray) (a' : Option Addr) (m cap' : Nat) (g : Nat → ByteArray) (w : World) (hn : n ≤ 1048576) (h : Row w a n f) (h' : Row w a' m g) :
    Calls Try.prog 15 #[.agg #[.string pu, .slice a n cap], .agg #[.string qu, .slice a' m cap']] w fun e w' => e = .returned (.bool (conB pu n f qu m g)) ∧ Below w.heap.size w w' := by
  by_cases hu : (qu.toList == pu.toList) = true
  · by_cases hnm : n ≤ m
    · go_enter Try.func15, Try.ntmps15
      go_wp2
      go_loop [24] (fun i => ∃ k : Nat, k ≤ n ∧ i = .int .i64 k ∧ ∀ j, j < k → g j = f j) (fun i => n - (intOf i).toNat)
      case atStart => exact ⟨0, Nat.zero_le _, rfl, fun j hj => absurd hj (Nat.not_lt_zero _)⟩
      case round =>
        obtain ⟨k, hk, rfl, hall⟩ := hrel
        have HA : Hid (∀ j, j < k → g j = f j) := hall
        clear hall
        by_cases hlt : k < n
        · obtain ⟨b, off, rfl, hc⟩ := h (by omega)
          obtain ⟨b', off', rfl, hc'⟩ := h' (by omega)
          have hck := hc k hlt
          have hck' := hc' k (by omega)
          have hb := cell_lt hck
          have hb' := cell_lt hck'
          have hkm : k < m := by omega
          clear hc hc' h h'
          go_wp2
          · have ht : (!(g k).toList == (f k).toList) = true := by assumption
            go_ret
            exact ⟨ret_bool (conB_no hlt ht).symm, two_new _ _ _⟩
          · have ht : (!(g k).toList == (f k).toList) = false := by assumption
            go_round
            case rel => exact ⟨k + 1, by omega, by go_num, eq_next HA.out ht⟩
            case measure => simp [intOf]; omega
        · have hkn : Hid (k = n) := by show k = n; omega
          go_wp2
          go_ret
          exact ⟨ret_bool (conB_yes hu hnm (hkn.out ▸ HA.out)).symm, two_new _ _ _⟩
    · have hmn : (m : Int) < n := by omega
      go_enter Try.func15, Try.ntmps15
      go_wp2
      go_ret
      exact ⟨ret_bool (conB_short hnm).symm, two_new _ _ _⟩
  · rw [Bool.not_eq_true] at hu
    go_enter Try.func15, Try.ntmps15
    go_wp2
    go_ret
    exact ⟨ret_bool (conB_user hu).symm, two_new _ _ _⟩
end Go.Proofs.Qxb6619296a
