import Derived.Test.Qxb6618468aWalkA
import Derived.Deep.RegionWith
namespace Go.Proofs.Qxb6618468a
open Go.RowKit

theorem main_long (a0 : ByteArray) (a1 : Int) (w0 : a0.size ≤ maxLen) (hs : ¬ a0.size ≤ 1048576) (w : World) :
    Calls Try.prog 3 #[.string a0, .int .i64 a1] w fun e w' => e = .returned (.bool true) ∧ w' = w := by
  go_enter Try.func3, Try.ntmps3
  go_wp2_with (go_at_call 4; refine (bytes_any _ _ _ w0).mono ?_; rintro e w' ⟨rfl, rfl⟩)
  go_ret
  exact ⟨rfl, rfl⟩

theorem main_neg (a0 : ByteArray) (a1 : Int) (w0 : a0.size ≤ maxLen) (hs : a0.size ≤ 1048576) (hk : a1 < 0) (w : World) :
    Calls Try.prog 3 #[.string a0, .int .i64 a1] w fun e w' => e = .returned (.bool true) ∧ w' = w := by
  go_enter Try.func3, Try.ntmps3
  go_wp2_with (go_at_call 4; refine (bytes_any _ _ _ w0).mono ?_; rintro e w' ⟨rfl, rfl⟩)
  go_ret
  exact ⟨rfl, rfl⟩

theorem main_far (a0 : ByteArray) (k : Nat) (w0 : a0.size ≤ maxLen) (hs : a0.size ≤ 1048576) (hk : ¬ k ≤ a0.size) (w : World) :
    Calls Try.prog 3 #[.string a0, .int .i64 k] w fun e w' => e = .returned (.bool true) ∧ w' = w := by
  have hk' : (a0.size : Int) < k := by omega
  go_enter Try.func3, Try.ntmps3
  go_wp2_with (go_at_call 4; refine (bytes_any _ _ _ w0).mono ?_; rintro e w' ⟨rfl, rfl⟩)
  go_ret
  exact ⟨rfl, rfl⟩

theorem take_of (s : ByteArray) (k : Nat) : (s.extract 0 k).data.toList = s.data.toList.take k := by
  simp [ByteArray.data_extract, Array.toList_extract, List.extract]

theorem cut_small (s : ByteArray) (k : Nat) (hs : s.size ≤ 1048576) : (s.extract 0 k).size ≤ 1048576 := by
  rw [ByteArray.size_extract]; omega

theorem zz_cut_in (s : ByteArray) (k : Nat) (w : World) (hs : s.size ≤ 1048576) (hb : Plain.okOf (Plain.qe s.data.toList) = true) (hn : Plain.numOf (Plain.qe s.data.toList) ≤ k) :
    Calls Try.prog 6 #[.string (s.extract 0 k)] w fun e w' => e = .returned (.tuple #[.int .i64 (Plain.numOf (Plain.qe s.data.toList)), .bool true]) ∧ w' = w := by
  have h := zz_any (s.extract 0 k) w (cut_small s k hs)
  rw [take_of, Plain.cut_in hb hn, hb] at h
  exact h

theorem zz_cut_out (s : ByteArray) (k : Nat) (w : World) (hs : s.size ≤ 1048576) (h : ¬ (Plain.okOf (Plain.qe s.data.toList) = true ∧ Plain.numOf (Plain.qe s.data.toList) ≤ k)) :
    Calls Try.prog 6 #[.string (s.extract 0 k)] w fun e w' => e = .returned (.tuple #[.int .i64 0, .bool false]) ∧ w' = w := by
  have g := zz_any (s.extract 0 k) w (cut_small s k hs)
  rw [take_of, Plain.cut_out h] at g
  exact g

set_option maxHeartbeats 400000 in
theorem main_in (a0 : ByteArray) (k : Nat) (w0 : a0.size ≤ maxLen) (hs : a0.size ≤ 1048576) (hk : k ≤ a0.size) (hb : Plain.okOf (Plain.qe a0.data.toList) = true) (hn : Plain.numOf (Plain.qe a0.data.toList) ≤ k) (w : World) :
    Calls Try.prog 3 #[.string a0, .int .i64 k] w fun e w' => e = .returned (.bool true) ∧ w' = w := by
  go_enter Try.func3, Try.ntmps3
  go_wp2_with (first | (go_at_call 4; refine (bytes_any _ _ _ w0).mono ?_; rintro e w' ⟨rfl, rfl⟩) | (go_at_call 5; refine (parity_any _ _ hs).mono ?_; rintro e w' ⟨rfl, rfl⟩) | (go_at_call_of 6 (Value.string a0); refine (zz_any _ _ hs).mono ?_; rintro e w' ⟨rfl, rfl⟩) | (go_at_call 6; refine (zz_cut_in _ _ _ hs hb hn).mono ?_; rintro e w' ⟨rfl, rfl⟩))
  go_ret
  exact ⟨rfl, rfl⟩

set_option maxHeartbeats 400000 in
theorem main_out1 (a0 : ByteArray) (k : Nat) (w0 : a0.size ≤ maxLen) (hs : a0.size ≤ 1048576) (hk : k ≤ a0.size) (hb : Plain.okOf (Plain.qe a0.data.toList) = true) (hn : ¬ Plain.numOf (Plain.qe a0.data.toList) ≤ k) (w : World) :
    Calls Try.prog 3 #[.string a0, .int .i64 k] w fun e w' => e = .returned (.bool true) ∧ w' = w := by
  have HO : Hid (¬ (Plain.okOf (Plain.qe a0.data.toList) = true ∧ Plain.numOf (Plain.qe a0.data.toList) ≤ k)) := fun h => hn h.2
  go_enter Try.func3, Try.ntmps3
  go_wp2_with (first | (go_at_call 4; refine (bytes_any _ _ _ w0).mono ?_; rintro e w' ⟨rfl, rfl⟩) | (go_at_call 5; refine (parity_any _ _ hs).mono ?_; rintro e w' ⟨rfl, rfl⟩) | (go_at_call_of 6 (Value.string a0); refine (zz_any _ _ hs).mono ?_; rintro e w' ⟨rfl, rfl⟩) | (go_at_call 6; refine (zz_cut_out _ _ _ hs HO.out).mono ?_; rintro e w' ⟨rfl, rfl⟩))
  go_ret
  exact ⟨rfl, rfl⟩

set_option maxHeartbeats 400000 in
theorem main_out2 (a0 : ByteArray) (k : Nat) (w0 : a0.size ≤ maxLen) (hs : a0.size ≤ 1048576) (hk : k ≤ a0.size) (hb : Plain.okOf (Plain.qe a0.data.toList) = false) (w : World) :
    Calls Try.prog 3 #[.string a0, .int .i64 k] w fun e w' => e = .returned (.bool true) ∧ w' = w := by
  have HO : Hid (¬ (Plain.okOf (Plain.qe a0.data.toList) = true ∧ Plain.numOf (Plain.qe a0.data.toList) ≤ k)) := fun h => by rw [hb] at h; cases h.1
  go_enter Try.func3, Try.ntmps3
  go_wp2_with (first | (go_at_call 4; refine (bytes_any _ _ _ w0).mono ?_; rintro e w' ⟨rfl, rfl⟩) | (go_at_call 5; refine (parity_any _ _ hs).mono ?_; rintro e w' ⟨rfl, rfl⟩) | (go_at_call_of 6 (Value.string a0); refine (zz_any _ _ hs).mono ?_; rintro e w' ⟨rfl, rfl⟩) | (go_at_call 6; refine (zz_cut_out _ _ _ hs HO.out).mono ?_; rintro e w' ⟨rfl, rfl⟩))
  go_ret
  exact ⟨rfl, rfl⟩

theorem main_any (a0 : ByteArray) (a1 : Int) (w0 : a0.size ≤ maxLen) (w : World) :
    Calls Try.prog 3 #[.string a0, .int .i64 a1] w fun e w' => e = .returned (.bool true) ∧ w' = w := by
  by_cases hs : a0.size ≤ 1048576
  · by_cases hk0 : a1 < 0
    · exact main_neg a0 a1 w0 hs hk0 w
    · obtain ⟨k, rfl⟩ := Int.eq_ofNat_of_zero_le (show 0 ≤ a1 by omega)
      by_cases hk : k ≤ a0.size
      · by_cases hb : Plain.okOf (Plain.qe a0.data.toList) = true
        · by_cases hn : Plain.numOf (Plain.qe a0.data.toList) ≤ k
          · exact main_in a0 k w0 hs hk hb hn w
          · exact main_out1 a0 k w0 hs hk hb hn w
        · exact main_out2 a0 k w0 hs hk (by simpa using hb) w
      · exact main_far a0 k w0 hs hk w
  · exact main_long a0 a1 w0 hs w
end Go.Proofs.Qxb6618468a
