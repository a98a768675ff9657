import Derived.Test.Qxb6618468aRows
import Derived.Test.Qxb6618468aPlain
import Derived.WalkKit
import Derived.ProofKit
import Derived.OpenShut
import Derived.ShutString
namespace Go.Proofs.Qxb6618468a
open Go.RowKit
open Plain

theorem ret2 {a b : Int} {x y : Bool} (h : a = b) (h2 : x = y) : Ending.returned (.tuple #[.int .i64 a, .bool x]) = .returned (.tuple #[.int .i64 b, .bool y]) := by rw [h, h2]

theorem drop_cons (s : ByteArray) (k : Nat) (h : k < s.size) : s.data.toList.drop k = s[k] :: s.data.toList.drop (k + 1) := by
  rw [List.drop_eq_getElem_cons (by simpa using h)]; rfl

theorem qe_head (s : ByteArray) (h : 0 < s.size) : qe s.data.toList = sk s[0] (s.data.toList.drop 1) 1 := by
  have := drop_cons s 0 h
  rw [List.drop_zero] at this
  rw [this]; rfl

theorem u8_eq {c d : UInt8} (h : ((c.toNat : Int) == (d.toNat : Int)) = true) : c = d := by
  have : (c.toNat : Int) = d.toNat := by simpa using h
  exact UInt8.toNat_inj.mp (by omega)
theorem u8_ne {c d : UInt8} (h : ((c.toNat : Int) == (d.toNat : Int)) = false) : ¬ c = d := by
  rintro rfl; simp at h

theorem n92 : ((92 : UInt8).toNat : Int) = 92 := rfl

set_option maxHeartbeats 400000 in
theorem end_any (s : ByteArray) (w : World) (hs : s.size ≤ 1048576) :
    Calls Try.prog 7 #[.string s] w fun e w' => e = .returned (.tuple #[.int .i64 (numOf (qe s.data.toList)), .bool (okOf (qe s.data.toList))]) ∧ w' = w := by
  go_enter Try.func7, Try.ntmps7
  go_wp2
  go_loop [4] (fun i => ∃ k : Nat, 1 ≤ k ∧ k ≤ s.size + 1 ∧ i = .int .i64 k ∧ (∀ h : 0 < s.size, sk s[0] (s.data.toList.drop k) k = qe s.data.toList)) (fun i => s.size + 1 - (intOf i).toNat)
  case atStart => exact ⟨1, by omega, by omega, rfl, fun h => (qe_head s h).symm⟩
  case round =>
    obtain ⟨k, hk1, hk2, rfl, hq⟩ := hrel
    have HQ : Hid (∀ h : 0 < s.size, sk s[0] (s.data.toList.drop k) k = qe s.data.toList) := hq
    clear hq
    by_cases hlt : k < s.size
    · have hpos : 0 < s.size := by omega
      have HD : Hid (s.data.toList.drop k = s[k] :: s.data.toList.drop (k + 1)) := drop_cons s k hlt
      go_wp2
      · have e := u8_eq ‹((s[k].toNat : Int) == (s[0].toNat : Int)) = true›
        have hr := HQ.out hpos
        rw [HD.out, sk_hit e] at hr
        go_ret2
        exact ⟨ret2 (by rw [← hr]; simp [numOf]) (by rw [← hr]; rfl), rfl⟩
      · have e1 := u8_ne ‹((s[k].toNat : Int) == (s[0].toNat : Int)) = false›
        have e2 : s[k] = 92 := u8_eq (by rw [n92]; assumption)
        have hr := HQ.out hpos
        rw [HD.out, sk_skip e1 e2, List.drop_drop] at hr
        go_round
        case rel => exact ⟨k + 2, by omega, by omega, by go_num, fun _ => hr⟩
        case measure => simp [intOf]; omega
      · have e1 := u8_ne ‹((s[k].toNat : Int) == (s[0].toNat : Int)) = false›
        have e2 : ¬ s[k] = 92 := u8_ne (by rw [n92]; assumption)
        have hr := HQ.out hpos
        rw [HD.out, sk_step e1 e2] at hr
        go_round
        case rel => exact ⟨k + 1, by omega, by omega, by go_num, fun _ => hr⟩
        case measure => simp [intOf]; omega
    · have hn : qe s.data.toList = none := by
        by_cases hpos : 0 < s.size
        · rw [← HQ.out hpos, List.drop_eq_nil_of_le (by simp; omega)]; rfl
        · rw [List.eq_nil_of_length_eq_zero (l := s.data.toList) (by have : s.data.size = s.size := rfl; rw [Array.length_toList]; omega)]; rfl
      have HN : Hid (qe s.data.toList = none) := hn
      clear hn
      go_wp2
      go_ret2
      exact ⟨ret2 (by rw [HN.out]; rfl) (by rw [HN.out]; rfl), rfl⟩

/-- 'run%2 == 0' -/
theorem even_of (r : Nat) : ((r : Int) % 2 == 0) = decide (r % 2 = 0) := by
  rw [Bool.eq_iff_iff]; simp; omega

set_option maxHeartbeats 400000 in
theorem parity_any (s : ByteArray) (w : World) (hs : s.size ≤ 1048576) :
    Calls Try.prog 5 #[.string s] w fun e w' => e = .returned (.tuple #[.int .i64 (numOf (qe s.data.toList)), .bool (okOf (qe s.data.toList))]) ∧ w' = w := by
  by_cases hpos : 0 < s.size
  · have HP : Hid (par s[0] (s.data.toList.drop 1) true 1 = qe s.data.toList) := by
      show _ = _
      rw [qe_head s hpos, sk_par _ _ _ _ (Nat.le_refl _)]
    have hz : ((s.size : Int) == 0) = false := by rw [beq_eq_false_iff_ne]; omega
    go_enter Try.func5, Try.ntmps5
    go_wp2
    go_loop [5, 6] (fun t i => ∃ k r : Nat, 1 ≤ k ∧ k ≤ s.size ∧ r < k ∧ i = .int .i64 k ∧ t = .int .i64 r ∧ par s[0] (s.data.toList.drop k) (decide (r % 2 = 0)) k = qe s.data.toList) (fun _ i => s.size + 1 - (intOf i).toNat)
    case atStart => exact ⟨1, 0, by omega, by omega, by omega, rfl, rfl, HP.out⟩
    case round =>
      obtain ⟨k, r, hk1, hk2, hr, rfl, rfl, hq⟩ := hrel
      have HQ : Hid (par s[0] (s.data.toList.drop k) (decide (r % 2 = 0)) k = qe s.data.toList) := hq
      clear hq
      by_cases hlt : k < s.size
      · have HD : Hid (s.data.toList.drop k = s[k] :: s.data.toList.drop (k + 1)) := drop_cons s k hlt
        by_cases hc : ((s[k].toNat : Int) == (s[0].toNat : Int)) = true
        · by_cases hv : ((r : Int) % 2 == 0) = true
          · have HR : Hid (qe s.data.toList = some (k + 1)) := by
              show _ = _
              rw [← HQ.out, HD.out, par_hit (u8_eq hc) (by rw [← even_of]; exact hv)]
            go_wp2
            go_ret2
            exact ⟨ret2 (by rw [HR.out]; simp [numOf]) (by rw [HR.out]; rfl), rfl⟩
          · rw [Bool.not_eq_true] at hv
            have hn : Hid (¬ (s[k] = s[0] ∧ decide (r % 2 = 0) = true)) := fun h => by rw [← even_of, hv] at h; cases h.2
            by_cases h9 : ((s[k].toNat : Int) == 92) = true
            · have HR : Hid (par s[0] (s.data.toList.drop (k + 1)) (decide ((r + 1) % 2 = 0)) (k + 1) = qe s.data.toList) := by
                show _ = _
                rw [← HQ.out, HD.out, par_run hn.out (u8_eq (by rw [n92]; exact h9)), not_even]
              go_wp2
              go_round
              case rel => exact ⟨k + 1, r + 1, by omega, by omega, by omega, by go_num, by go_num, HR.out⟩
              case measure => simp [intOf]; omega
            · rw [Bool.not_eq_true] at h9
              have HR : Hid (par s[0] (s.data.toList.drop (k + 1)) true (k + 1) = qe s.data.toList) := by
                show _ = _
                rw [← HQ.out, HD.out, par_step hn.out (u8_ne (by rw [n92]; exact h9))]
              go_wp2
              go_round
              case rel => exact ⟨k + 1, 0, by omega, by omega, by omega, by go_num, rfl, HR.out⟩
              case measure => simp [intOf]; omega
        · rw [Bool.not_eq_true] at hc
          have hn : Hid (¬ (s[k] = s[0] ∧ decide (r % 2 = 0) = true)) := fun h => u8_ne hc h.1
          by_cases h9 : ((s[k].toNat : Int) == 92) = true
          · have HR : Hid (par s[0] (s.data.toList.drop (k + 1)) (decide ((r + 1) % 2 = 0)) (k + 1) = qe s.data.toList) := by
              show _ = _
              rw [← HQ.out, HD.out, par_run hn.out (u8_eq (by rw [n92]; exact h9)), not_even]
            go_wp2
            go_round
            case rel => exact ⟨k + 1, r + 1, by omega, by omega, by omega, by go_num, by go_num, HR.out⟩
            case measure => simp [intOf]; omega
          · rw [Bool.not_eq_true] at h9
            have HR : Hid (par s[0] (s.data.toList.drop (k + 1)) true (k + 1) = qe s.data.toList) := by
              show _ = _
              rw [← HQ.out, HD.out, par_step hn.out (u8_ne (by rw [n92]; exact h9))]
            go_wp2
            go_round
            case rel => exact ⟨k + 1, 0, by omega, by omega, by omega, by go_num, rfl, HR.out⟩
            case measure => simp [intOf]; omega
      · have HN : Hid (qe s.data.toList = none) := by
          show _ = _
          rw [← HQ.out, List.drop_eq_nil_of_le (by simp; omega)]; rfl
        go_wp2
        go_ret2
        exact ⟨ret2 (by rw [HN.out]; rfl) (by rw [HN.out]; rfl), rfl⟩
  · have hz : ((s.size : Int) == 0) = true := by rw [beq_iff_eq]; omega
    have HN : Hid (qe s.data.toList = none) := by
      show _ = _
      rw [List.eq_nil_of_length_eq_zero (l := s.data.toList) (by have : s.data.size = s.size := rfl; rw [Array.length_toList]; omega)]; rfl
    go_enter Try.func5, Try.ntmps5
    go_wp2
    go_ret2
    exact ⟨ret2 (by rw [HN.out]; rfl) (by rw [HN.out]; rfl), rfl⟩

theorem zz_any (s : ByteArray) (w : World) (hs : s.size ≤ 1048576) :
    Calls Try.prog 6 #[.string s] w fun e w' => e = .returned (.tuple #[.int .i64 (numOf (qe s.data.toList)), .bool (okOf (qe s.data.toList))]) ∧ w' = w := by
  go_enter Try.func6, Try.ntmps6
  go_wp2_with (go_at_call 7; refine (end_any _ _ hs).mono ?_; rintro e w' ⟨rfl, rfl⟩)
  go_ret2
  exact ⟨rfl, rfl⟩

theorem bytes_any (s : ByteArray) (k : Int) (w : World) (hs : s.size ≤ maxLen) :
    Calls Try.prog 4 #[.string s, .int .i64 k] w fun e w' => e = .returned (.bool (decide (s.size ≤ 1048576))) ∧ w' = w := by
  unfold maxLen at hs
  by_cases h : s.size ≤ 1048576
  · go_enter Try.func4, Try.ntmps4
    go_wp2
    go_ret
    exact ⟨by simp [h], rfl⟩
  · go_enter Try.func4, Try.ntmps4
    go_wp2
    go_ret
    exact ⟨by simp [h], rfl⟩
end Go.Proofs.Qxb6618468a
