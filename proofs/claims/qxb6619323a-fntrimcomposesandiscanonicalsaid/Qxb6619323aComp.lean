import Derived.Test.Qxb6619323aTrim
namespace Go.Proofs.Qxb6619323a
open Go.RowKit
open Plain (trim tU tP ten)

theorem one_new' (w : World) (x : Obj) : Below w.heap.size w (w.alloc x) := (Below.refl _ _).alloc (Nat.le_refl _) _

/-- Trimmed, a price is still within its kinds. -/
theorem t_bounds (u p j : Int) (b1 : -9223372036854775808 ≤ u) (b2 : u ≤ 9223372036854775807) (b3 : -2147483648 ≤ p) (b4 : p ≤ 2147483647) (b5 : -2147483648 ≤ j) :
    -9223372036854775808 ≤ tU u p j ∧ tU u p j ≤ 9223372036854775807 ∧ -2147483648 ≤ tP u p j ∧ tP u p j ≤ 2147483647 := by
  obtain ⟨k, q1, q2, q3, q4, q5⟩ := Plain.t_is u p j
  obtain ⟨r1, r2⟩ := Plain.inside q2 b1 b2
  exact ⟨r1, r2, by omega, by omega⟩

/-- The second trim. -/
theorem zz_second (u p j k m : Int) (w : World) (hm : m = if k < j then k else j) (b1 : -9223372036854775808 ≤ u) (b2 : u ≤ 9223372036854775807) (b3 : -2147483648 ≤ p) (b4 : p ≤ 2147483647) (b5 : -2147483648 ≤ j) (b6 : -2147483648 ≤ k) :
    Calls Try.prog 5 #[.agg #[.int .i64 (tU u p j), .int .i32 (tP u p j)], .int .i32 k] w fun e w' => e = .returned (.agg #[.int .i64 (tU u p m), .int .i32 (tP u p m)]) ∧ Below w.heap.size w w' := by
  obtain ⟨t1, t2, t3, t4⟩ := t_bounds u p j b1 b2 b3 b4 b5
  have C := zz_any (tU u p j) (tP u p j) k w t1 t2 t3 t4 b6
  have E := Plain.t_comp u p j k m hm
  rw [E.1, E.2] at C
  exact C

/-- From the place where p is made on: one walk for both orders of j and k. -/
theorem canon_of (u p m : Int) (w : World) (b1 : -9223372036854775808 ≤ u) (b2 : u ≤ 9223372036854775807) (b3 : -2147483648 ≤ p) (b4 : p ≤ 2147483647) (b5 : -2147483648 ≤ m) :
    Calls Try.prog 6 #[.int .i64 u, .int .i32 p, .int .i32 m, .int .i64 (tU u p m), .int .i32 (tP u p m)] w fun e w' => e = .returned (.bool true) ∧ w' = w := by
  obtain ⟨k, q1, q2, q3, q4, q5⟩ := Plain.t_is u p m
  exact canon_any u p m (tU u p m) (tP u p m) k w q1 q2 b1 b2 b3 b4 (by omega) q3 q4

set_option linter.unusedVariables false

set_option maxHeartbeats 800000 in
theorem lt_zero (u p j k : Int) (w : World) (b1 : -9223372036854775808 ≤ u) (b2 : u ≤ 9223372036854775807) (b3 : -2147483648 ≤ p) (b4 : p ≤ 2147483647) (b5 : -2147483648 ≤ j) (b6 : j ≤ 2147483647) (b7 : -2147483648 ≤ k) (b8 : k ≤ 2147483647) (hkj : k < j) (h5' : (u == 0) = true) (h6 : ¬ 65536 < p - k) :
    Calls Try.prog 3 #[.int .i64 u, .int .i32 p, .int .i32 j, .int .i32 k] w fun x w' => x = .returned (.bool true) ∧ Below w.heap.size w w' := by
  have HM : Hid (k = if k < j then k else j) := by show _ = _; rw [if_pos hkj]
  have h1 := one_new' w (.cells #[.int .i64 u, .int .i32 p] 23)
  go_enter Try.func3, Try.ntmps3
  go_wp2_with fail
  refine (zz_any u p j _ b1 b2 b3 b4 b5).mono ?_
  rintro x w1 ⟨rfl, hb1⟩
  obtain ⟨hc1, hf1⟩ := bcell hb1
  have hs1 : w.heap.size < w1.heap.size := by have := hb1.size; simp at this; omega
  have BL1 := h1.trans (hb1.mono h1.size)
  go_wp2_with fail
  refine (zz_second u p j k k _ HM.out b1 b2 b3 b4 b5 b7).mono ?_
  rintro x w2 ⟨rfl, hb2⟩
  obtain ⟨hc2, hf2⟩ := bcell hb2
  have hs2 : w.heap.size < w2.heap.size := by have := hb2.size; omega
  have BL2 := BL1.trans (hb2.mono BL1.size)
  have BL2' := BL2.trans ((one_new' w2 (.cells #[.int .i64 (tU u p k), .int .i32 (tP u p k)] 23)).mono BL2.size)
  clear hb1 hb2 h1 BL1
  go_wp2_with fail
  refine (zz_any u p k _ b1 b2 b3 b4 b7).mono ?_
  rintro x w3 ⟨rfl, hb3⟩
  obtain ⟨hc3, hf3⟩ := bcell hb3
  have hs3 : w2.heap.size < w3.heap.size := by have := hb3.size; simp at this; omega
  have BL3 := BL2'.trans (hb3.mono BL2'.size)
  have BL4 := BL3.trans ((one_new' w3 (.cells #[.int .i64 (tU u p k), .int .i32 (tP u p k)] 23)).mono BL3.size)
  clear hc1 hf1 hc2 hf2 hf3 hb3 BL2 BL2' BL3
  go_wp2_with fail
  refine (canon_of u p k _ b1 b2 b3 b4 b7).mono ?_
  rintro x w4 ⟨rfl, rfl⟩
  go_wp2_with fail
  go_ret
  exact ⟨rfl, BL4⟩

set_option maxHeartbeats 800000 in
theorem lt_other (u p j k : Int) (w : World) (b1 : -9223372036854775808 ≤ u) (b2 : u ≤ 9223372036854775807) (b3 : -2147483648 ≤ p) (b4 : p ≤ 2147483647) (b5 : -2147483648 ≤ j) (b6 : j ≤ 2147483647) (b7 : -2147483648 ≤ k) (b8 : k ≤ 2147483647) (hkj : k < j) (h5' : (u == 0) = false) :
    Calls Try.prog 3 #[.int .i64 u, .int .i32 p, .int .i32 j, .int .i32 k] w fun x w' => x = .returned (.bool true) ∧ Below w.heap.size w w' := by
  have HM : Hid (k = if k < j then k else j) := by show _ = _; rw [if_pos hkj]
  have h1 := one_new' w (.cells #[.int .i64 u, .int .i32 p] 23)
  go_enter Try.func3, Try.ntmps3
  go_wp2_with fail
  refine (zz_any u p j _ b1 b2 b3 b4 b5).mono ?_
  rintro x w1 ⟨rfl, hb1⟩
  obtain ⟨hc1, hf1⟩ := bcell hb1
  have hs1 : w.heap.size < w1.heap.size := by have := hb1.size; simp at this; omega
  have BL1 := h1.trans (hb1.mono h1.size)
  go_wp2_with fail
  refine (zz_second u p j k k _ HM.out b1 b2 b3 b4 b5 b7).mono ?_
  rintro x w2 ⟨rfl, hb2⟩
  obtain ⟨hc2, hf2⟩ := bcell hb2
  have hs2 : w.heap.size < w2.heap.size := by have := hb2.size; omega
  have BL2 := BL1.trans (hb2.mono BL1.size)
  have BL2' := BL2.trans ((one_new' w2 (.cells #[.int .i64 (tU u p k), .int .i32 (tP u p k)] 23)).mono BL2.size)
  clear hb1 hb2 h1 BL1
  go_wp2_with fail
  refine (zz_any u p k _ b1 b2 b3 b4 b7).mono ?_
  rintro x w3 ⟨rfl, hb3⟩
  obtain ⟨hc3, hf3⟩ := bcell hb3
  have hs3 : w2.heap.size < w3.heap.size := by have := hb3.size; simp at this; omega
  have BL3 := BL2'.trans (hb3.mono BL2'.size)
  have BL4 := BL3.trans ((one_new' w3 (.cells #[.int .i64 (tU u p k), .int .i32 (tP u p k)] 23)).mono BL3.size)
  clear hc1 hf1 hc2 hf2 hf3 hb3 BL2 BL2' BL3
  go_wp2_with fail
  refine (canon_of u p k _ b1 b2 b3 b4 b7).mono ?_
  rintro x w4 ⟨rfl, rfl⟩
  go_wp2_with fail
  go_ret
  exact ⟨rfl, BL4⟩

set_option maxHeartbeats 800000 in
theorem lt_far (u p j k : Int) (w : World) (b1 : -9223372036854775808 ≤ u) (b2 : u ≤ 9223372036854775807) (b3 : -2147483648 ≤ p) (b4 : p ≤ 2147483647) (b5 : -2147483648 ≤ j) (b6 : j ≤ 2147483647) (b7 : -2147483648 ≤ k) (b8 : k ≤ 2147483647) (hkj : k < j) (h5' : (u == 0) = true) (h6 : 65536 < p - k) :
    Calls Try.prog 3 #[.int .i64 u, .int .i32 p, .int .i32 j, .int .i32 k] w fun x w' => x = .returned (.bool true) ∧ Below w.heap.size w w' := by
  go_enter Try.func3, Try.ntmps3
  go_wp2
  go_ret
  exact ⟨rfl, Below.refl _ _⟩

set_option maxHeartbeats 800000 in
theorem ge_zero (u p j k : Int) (w : World) (b1 : -9223372036854775808 ≤ u) (b2 : u ≤ 9223372036854775807) (b3 : -2147483648 ≤ p) (b4 : p ≤ 2147483647) (b5 : -2147483648 ≤ j) (b6 : j ≤ 2147483647) (b7 : -2147483648 ≤ k) (b8 : k ≤ 2147483647) (hkj : ¬ k < j) (h5' : (u == 0) = true) (h6 : ¬ 65536 < p - j) :
    Calls Try.prog 3 #[.int .i64 u, .int .i32 p, .int .i32 j, .int .i32 k] w fun x w' => x = .returned (.bool true) ∧ Below w.heap.size w w' := by
  have HM : Hid (j = if k < j then k else j) := by show _ = _; rw [if_neg hkj]
  have h1 := one_new' w (.cells #[.int .i64 u, .int .i32 p] 23)
  go_enter Try.func3, Try.ntmps3
  go_wp2_with fail
  refine (zz_any u p j _ b1 b2 b3 b4 b5).mono ?_
  rintro x w1 ⟨rfl, hb1⟩
  obtain ⟨hc1, hf1⟩ := bcell hb1
  have hs1 : w.heap.size < w1.heap.size := by have := hb1.size; simp at this; omega
  have BL1 := h1.trans (hb1.mono h1.size)
  go_wp2_with fail
  refine (zz_second u p j k j _ HM.out b1 b2 b3 b4 b5 b7).mono ?_
  rintro x w2 ⟨rfl, hb2⟩
  obtain ⟨hc2, hf2⟩ := bcell hb2
  have hs2 : w.heap.size < w2.heap.size := by have := hb2.size; omega
  have BL2 := BL1.trans (hb2.mono BL1.size)
  have BL2' := BL2.trans ((one_new' w2 (.cells #[.int .i64 (tU u p j), .int .i32 (tP u p j)] 23)).mono BL2.size)
  clear hb1 hb2 h1 BL1
  go_wp2_with fail
  refine (zz_any u p j _ b1 b2 b3 b4 b5).mono ?_
  rintro x w3 ⟨rfl, hb3⟩
  obtain ⟨hc3, hf3⟩ := bcell hb3
  have hs3 : w2.heap.size < w3.heap.size := by have := hb3.size; simp at this; omega
  have BL3 := BL2'.trans (hb3.mono BL2'.size)
  have BL4 := BL3.trans ((one_new' w3 (.cells #[.int .i64 (tU u p j), .int .i32 (tP u p j)] 23)).mono BL3.size)
  clear hc1 hf1 hc2 hf2 hf3 hb3 BL2 BL2' BL3
  go_wp2_with fail
  refine (canon_of u p j _ b1 b2 b3 b4 b5).mono ?_
  rintro x w4 ⟨rfl, rfl⟩
  go_wp2_with fail
  go_ret
  exact ⟨rfl, BL4⟩

set_option maxHeartbeats 800000 in
theorem ge_other (u p j k : Int) (w : World) (b1 : -9223372036854775808 ≤ u) (b2 : u ≤ 9223372036854775807) (b3 : -2147483648 ≤ p) (b4 : p ≤ 2147483647) (b5 : -2147483648 ≤ j) (b6 : j ≤ 2147483647) (b7 : -2147483648 ≤ k) (b8 : k ≤ 2147483647) (hkj : ¬ k < j) (h5' : (u == 0) = false) :
    Calls Try.prog 3 #[.int .i64 u, .int .i32 p, .int .i32 j, .int .i32 k] w fun x w' => x = .returned (.bool true) ∧ Below w.heap.size w w' := by
  have HM : Hid (j = if k < j then k else j) := by show _ = _; rw [if_neg hkj]
  have h1 := one_new' w (.cells #[.int .i64 u, .int .i32 p] 23)
  go_enter Try.func3, Try.ntmps3
  go_wp2_with fail
  refine (zz_any u p j _ b1 b2 b3 b4 b5).mono ?_
  rintro x w1 ⟨rfl, hb1⟩
  obtain ⟨hc1, hf1⟩ := bcell hb1
  have hs1 : w.heap.size < w1.heap.size := by have := hb1.size; simp at this; omega
  have BL1 := h1.trans (hb1.mono h1.size)
  go_wp2_with fail
  refine (zz_second u p j k j _ HM.out b1 b2 b3 b4 b5 b7).mono ?_
  rintro x w2 ⟨rfl, hb2⟩
  obtain ⟨hc2, hf2⟩ := bcell hb2
  have hs2 : w.heap.size < w2.heap.size := by have := hb2.size; omega
  have BL2 := BL1.trans (hb2.mono BL1.size)
  have BL2' := BL2.trans ((one_new' w2 (.cells #[.int .i64 (tU u p j), .int .i32 (tP u p j)] 23)).mono BL2.size)
  clear hb1 hb2 h1 BL1
  go_wp2_with fail
  refine (zz_any u p j _ b1 b2 b3 b4 b5).mono ?_
  rintro x w3 ⟨rfl, hb3⟩
  obtain ⟨hc3, hf3⟩ := bcell hb3
  have hs3 : w2.heap.size < w3.heap.size := by have := hb3.size; simp at this; omega
  have BL3 := BL2'.trans (hb3.mono BL2'.size)
  have BL4 := BL3.trans ((one_new' w3 (.cells #[.int .i64 (tU u p j), .int .i32 (tP u p j)] 23)).mono BL3.size)
  clear hc1 hf1 hc2 hf2 hf3 hb3 BL2 BL2' BL3
  go_wp2_with fail
  refine (canon_of u p j _ b1 b2 b3 b4 b5).mono ?_
  rintro x w4 ⟨rfl, rfl⟩
  go_wp2_with fail
  go_ret
  exact ⟨rfl, BL4⟩

set_option maxHeartbeats 800000 in
theorem ge_far (u p j k : Int) (w : World) (b1 : -9223372036854775808 ≤ u) (b2 : u ≤ 9223372036854775807) (b3 : -2147483648 ≤ p) (b4 : p ≤ 2147483647) (b5 : -2147483648 ≤ j) (b6 : j ≤ 2147483647) (b7 : -2147483648 ≤ k) (b8 : k ≤ 2147483647) (hkj : ¬ k < j) (h5' : (u == 0) = true) (h6 : 65536 < p - j) :
    Calls Try.prog 3 #[.int .i64 u, .int .i32 p, .int .i32 j, .int .i32 k] w fun x w' => x = .returned (.bool true) ∧ Below w.heap.size w w' := by
  go_enter Try.func3, Try.ntmps3
  go_wp2
  go_ret
  exact ⟨rfl, Below.refl _ _⟩

theorem comp_any (u p j k : Int) (w : World) (b1 : -9223372036854775808 ≤ u) (b2 : u ≤ 9223372036854775807) (b3 : -2147483648 ≤ p) (b4 : p ≤ 2147483647) (b5 : -2147483648 ≤ j) (b6 : j ≤ 2147483647) (b7 : -2147483648 ≤ k) (b8 : k ≤ 2147483647) :
    Calls Try.prog 3 #[.int .i64 u, .int .i32 p, .int .i32 j, .int .i32 k] w fun x w' => x = .returned (.bool true) ∧ Below w.heap.size w w' := by
  by_cases hkj : k < j
  · by_cases h0 : u = 0
    · have h5' : (u == 0) = true := by rw [beq_iff_eq]; exact h0
      by_cases h6 : 65536 < p - k
      · exact lt_far u p j k w b1 b2 b3 b4 b5 b6 b7 b8 hkj h5' h6
      · exact lt_zero u p j k w b1 b2 b3 b4 b5 b6 b7 b8 hkj h5' h6
    · exact lt_other u p j k w b1 b2 b3 b4 b5 b6 b7 b8 hkj (by rw [beq_eq_false_iff_ne]; exact h0)
  · by_cases h0 : u = 0
    · have h5' : (u == 0) = true := by rw [beq_iff_eq]; exact h0
      by_cases h6 : 65536 < p - j
      · exact ge_far u p j k w b1 b2 b3 b4 b5 b6 b7 b8 hkj h5' h6
      · exact ge_zero u p j k w b1 b2 b3 b4 b5 b6 b7 b8 hkj h5' h6
    · exact ge_other u p j k w b1 b2 b3 b4 b5 b6 b7 b8 hkj (by rw [beq_eq_false_iff_ne]; exact h0)
end Go.Proofs.Qxb6619323a
