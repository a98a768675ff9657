import Derived.Test.Qxb6619323aTrim
namespace Go.Proofs.Qxb6619323a
open Go.RowKit
open Plain (trim tU tP ten)

theorem fits_wrap {u W : Int} (hW : 1 ≤ W) (h1 : u ≤ 9223372036854775807 / W) (h2 : wrap64 (-Int.tdiv 9223372036854775808 W) ≤ u) :
    wrap64 (u * W) = u * W ∧ -9223372036854775808 ≤ u * W ∧ u * W ≤ 9223372036854775807 := by
  have e1 : (9223372036854775807 : Int).tdiv W = 9223372036854775807 / W := Int.tdiv_eq_ediv_of_nonneg (by omega)
  have e2 : (9223372036854775808 : Int).tdiv W = 9223372036854775808 / W := Int.tdiv_eq_ediv_of_nonneg (by omega)
  have e3 : 0 ≤ (9223372036854775808 : Int) / W := Int.ediv_nonneg (by omega) (by omega)
  have e4 : (9223372036854775808 : Int) / W ≤ 9223372036854775808 := Int.ediv_le_self _ (by omega)
  have e5 : wrap64 (-Int.tdiv 9223372036854775808 W) = -Int.tdiv 9223372036854775808 W := by rw [e2]; unfold wrap64; omega
  have F := Plain.fits hW (u := u) (by rw [e1]; exact h1) (by rw [Int.neg_tdiv]; rw [e5] at h2; exact h2)
  refine ⟨?_, F⟩
  obtain ⟨f1, f2⟩ := F
  unfold wrap64
  omega

/-- The padded form, trimmed. -/
theorem zz_pad (x u p m : Int) (d : Nat) (w : World) (hx : x = u * ten d) (hx1 : -9223372036854775808 ≤ u * ten d) (hx2 : u * ten d ≤ 9223372036854775807) (_b3 : -2147483648 ≤ p) (b4 : p + d ≤ 2147483647) (b5 : -2147483648 ≤ m) (h : m ≤ p) :
    Calls Try.prog 5 #[.agg #[.int .i64 x, .int .i32 (p + d)], .int .i32 m] w fun e w' => e = .returned (.agg #[.int .i64 (tU u p m), .int .i32 (tP u p m)]) ∧ Below w.heap.size w w' := by
  have C := zz_any (u * ten d) (p + d) m w hx1 hx2 (by omega) b4 b5
  have E := Plain.t_pad u p m d h
  rw [show (10 : Int) ^ d = ten d from rfl] at E
  rw [E.1, E.2] at C
  rw [hx]
  exact C

theorem one_new (w : World) (x : Obj) : Below w.heap.size w (w.alloc x) := (Below.refl _ _).alloc (Nat.le_refl _) _

set_option maxHeartbeats 800000 in
theorem pad_any (u p e m : Int) (w : World) (b1 : -9223372036854775808 ≤ u) (b2 : u ≤ 9223372036854775807) (b3 : -2147483648 ≤ p) (b4 : p ≤ 2147483647) (b5 : -2147483648 ≤ e) (b6 : e ≤ 2147483647) (b7 : -2147483648 ≤ m) (b8 : m ≤ 2147483647) :
    Calls Try.prog 4 #[.int .i64 u, .int .i32 p, .int .i32 e, .int .i32 m] w fun x w' => x = .returned (.bool true) ∧ Below w.heap.size w w' := by
  by_cases h1 : e < 0
  · go_enter Try.func4, Try.ntmps4
    go_wp2
    go_ret
    exact ⟨rfl, Below.refl _ _⟩
  · by_cases h2 : 18 < e
    · go_enter Try.func4, Try.ntmps4
      go_wp2
      go_ret
      exact ⟨rfl, Below.refl _ _⟩
    · by_cases h3 : p < m
      · go_enter Try.func4, Try.ntmps4
        go_wp2
        go_ret
        exact ⟨rfl, Below.refl _ _⟩
      · by_cases h4 : 2147483647 < p + e
        · go_enter Try.func4, Try.ntmps4
          go_wp2
          go_ret
          exact ⟨rfl, Below.refl _ _⟩
        · by_cases h5 : u = 0
          · have h5' : (u == 0) = true := by rw [beq_iff_eq]; exact h5
            by_cases h6 : 65536 < p + e - m
            · go_enter Try.func4, Try.ntmps4
              go_wp2
              go_ret
              exact ⟨rfl, Below.refl _ _⟩
            · clear h5
              obtain ⟨d, rfl⟩ := Int.eq_ofNat_of_zero_le (show 0 ≤ e by omega)
              have hd : d ≤ 18 := by omega
              have t1 := Plain.ten_pos d
              have t2 : ten d ≤ 1000000000000000000 := by have := Plain.ten_mono hd; rw [Plain.ten_18] at this; exact this
              have ht' : (ten d == 0) = false := by rw [beq_eq_false_iff_ne]; omega
              go_enter Try.func4, Try.ntmps4
              go_wp2_with fail
              refine (pow_int _ d (by omega) _ hd).mono ?_
              rintro x w' ⟨rfl, rfl⟩
              go_wp2_with fail
              · go_ret
                exact ⟨rfl, Below.refl _ _⟩
              · have hg : u ≤ 9223372036854775807 / ten d ∧ wrap64 (-Int.tdiv 9223372036854775808 (ten d)) ≤ u := by assumption
                obtain ⟨hx, hx1, hx2⟩ := fits_wrap t1 hg.1 hg.2
                clear hg
                refine (zz_pad _ u p m d _ hx hx1 hx2 b3 (by omega) b7 (by omega)).mono ?_
                clear hx hx1 hx2
                rintro x w1 ⟨rfl, hb1⟩
                go_wp2_with fail
                refine (zz_any u p m _ b1 b2 b3 b4 b7).mono ?_
                rintro x w2 ⟨rfl, hb2⟩
                obtain ⟨hc2, hf2⟩ := bcell hb2
                have hs2 : w1.heap.size < w2.heap.size := by have := hb2.size; simp at this; omega
                obtain ⟨k, q1, q2, q3, q4, q5⟩ := Plain.t_is u p m
                have hP : m ≤ tP u p m := by rcases q3 with rfl | q3; · rw [q1]; simpa using h3
                                             · exact q3
                have SC := same_any u p (tU u p m) (tP u p m) k (w2.alloc (.cells #[.int .i64 (tU u p m), .int .i32 (tP u p m)] 23)) q1 q2 b1 b2 b3 b4 (by omega)
                clear q1 q2 q3 q4 q5
                have BL := (hb1.trans ((one_new w1 _).mono hb1.size)).trans (hb2.mono (by have := hb1.size; simp; omega))
                have BL2 := BL.trans ((one_new w2 (.cells #[.int .i64 (tU u p m), .int .i32 (tP u p m)] 23)).mono BL.size)
                go_wp2_with fail
                refine SC.mono ?_
                rintro x w3 ⟨rfl, rfl⟩
                go_wp2_with fail
                go_ret
                exact ⟨rfl, BL2⟩
              · go_ret
                exact ⟨rfl, Below.refl _ _⟩
          · have h5' : (u == 0) = false := by rw [beq_eq_false_iff_ne]; exact h5
            obtain ⟨d, rfl⟩ := Int.eq_ofNat_of_zero_le (show 0 ≤ e by omega)
            have hd : d ≤ 18 := by omega
            have t1 := Plain.ten_pos d
            have t2 : ten d ≤ 1000000000000000000 := by have := Plain.ten_mono hd; rw [Plain.ten_18] at this; exact this
            have ht' : (ten d == 0) = false := by rw [beq_eq_false_iff_ne]; omega
            go_enter Try.func4, Try.ntmps4
            go_wp2_with fail
            refine (pow_int _ d (by omega) _ hd).mono ?_
            rintro x w' ⟨rfl, rfl⟩
            go_wp2_with fail
            · go_ret
              exact ⟨rfl, Below.refl _ _⟩
            · have hg : u ≤ 9223372036854775807 / ten d ∧ wrap64 (-Int.tdiv 9223372036854775808 (ten d)) ≤ u := by assumption
              obtain ⟨hx, hx1, hx2⟩ := fits_wrap t1 hg.1 hg.2
              clear hg
              refine (zz_pad _ u p m d _ hx hx1 hx2 b3 (by omega) b7 (by omega)).mono ?_
              clear hx hx1 hx2
              rintro x w1 ⟨rfl, hb1⟩
              go_wp2_with fail
              refine (zz_any u p m _ b1 b2 b3 b4 b7).mono ?_
              rintro x w2 ⟨rfl, hb2⟩
              obtain ⟨hc2, hf2⟩ := bcell hb2
              have hs2 : w1.heap.size < w2.heap.size := by have := hb2.size; simp at this; omega
              obtain ⟨k, q1, q2, q3, q4, q5⟩ := Plain.t_is u p m
              have hP : m ≤ tP u p m := by rcases q3 with rfl | q3; · rw [q1]; simpa using h3
                                           · exact q3
              have SC := same_any u p (tU u p m) (tP u p m) k (w2.alloc (.cells #[.int .i64 (tU u p m), .int .i32 (tP u p m)] 23)) q1 q2 b1 b2 b3 b4 (by omega)
              clear q1 q2 q3 q4 q5
              have BL := (hb1.trans ((one_new w1 _).mono hb1.size)).trans (hb2.mono (by have := hb1.size; simp; omega))
              have BL2 := BL.trans ((one_new w2 (.cells #[.int .i64 (tU u p m), .int .i32 (tP u p m)] 23)).mono BL.size)
              go_wp2_with fail
              refine SC.mono ?_
              rintro x w3 ⟨rfl, rfl⟩
              go_wp2_with fail
              go_ret
              exact ⟨rfl, BL2⟩
            · go_ret
              exact ⟨rfl, Below.refl _ _⟩
end Go.Proofs.Qxb6619323a
