import Derived.Test.Qxb6619323aRows
import Derived.Test.Qxb6619323aPlain
import Derived.WalkKit
import Derived.ProofKit
import Derived.OpenShut
import Derived.ShutString
import Derived.Deep.LoopGhost
import Derived.WalkSmall
namespace Go.Proofs.Qxb6619323a
open Go.RowKit
open Plain (trim tU tP ten)

theorem ret_int {k : IntKind} {a b : Int} (h : a = b) : Ending.returned (.int k a) = .returned (.int k b) := by rw [h]

set_option maxHeartbeats 400000 in
theorem pow_any (d : Nat) (w : World) (hd : d ≤ 18) :
    Calls Try.prog 7 #[.int .i64 d] w fun e w' => e = .returned (.int .i64 (ten d)) ∧ w' = w := by
  go_enter Try.func7, Try.ntmps7
  go_wp2
  go_loop [3, 4] (fun t i => ∃ k : Nat, k ≤ d ∧ i = .int .i64 k ∧ t = .int .i64 (ten k)) (fun _ i => d - (intOf i).toNat)
  case atStart => exact ⟨0, Nat.zero_le _, rfl, rfl⟩
  case round =>
    obtain ⟨k, hk, rfl, rfl⟩ := hrel
    by_cases hlt : k < d
    · have h1 := Plain.ten_pos k
      have h2 : ten k ≤ 100000000000000000 := by
        have := Plain.ten_mono (show k ≤ 17 by omega)
        have e : ten 17 = 100000000000000000 := by decide
        omega
      have HS : Hid (ten (k + 1) = ten k * 10) := Plain.ten_succ k
      go_wp2
      go_round
      case rel => exact ⟨k + 1, by omega, by go_num, by rw [HS.out]⟩
      case measure => simp [intOf]; omega
    · have hkd : Hid (k = d) := by show k = d; omega
      go_wp2
      go_ret
      exact ⟨ret_int (by rw [hkd.out]), rfl⟩

theorem pow_int (x : Int) (d : Nat) (hx : x = d) (w : World) (hd : d ≤ 18) :
    Calls Try.prog 7 #[.int .i64 x] w fun e w' => e = .returned (.int .i64 (ten d)) ∧ w' = w := by
  subst hx; exact pow_any d w hd

set_option maxHeartbeats 400000 in
theorem same_any (pu pp ru rp : Int) (d : Nat) (w : World) (hp : rp = pp - d) (hu : pu = ru * ten d) (b1 : -9223372036854775808 ≤ pu) (b2 : pu ≤ 9223372036854775807) (b3 : -2147483648 ≤ pp) (b4 : pp ≤ 2147483647) (b5 : -2147483648 ≤ rp) :
    Calls Try.prog 8 #[.int .i64 pu, .int .i32 pp, .int .i64 ru, .int .i32 rp] w fun e w' => e = .returned (.bool true) ∧ w' = w := by
  by_cases hz : pu = 0
  · have hr0 : ru = 0 := by
      have := Plain.ten_pos d
      rw [hz] at hu
      rcases Int.mul_eq_zero.mp hu.symm with h | h
      · exact h
      · omega
    subst hz hr0
    clear hu
    have hle : rp ≤ pp := by omega
    clear hp
    go_enter Try.func8, Try.ntmps8
    go_wp2
    go_ret
    exact ⟨rfl, rfl⟩
  · have hd := Plain.few_zeros hu hz b1 b2
    obtain ⟨m1, m2⟩ := Plain.div_ten hu
    obtain ⟨r1, r2⟩ := Plain.inside hu b1 b2
    have t1 := Plain.ten_pos d
    have hz' : (pu == 0) = false := by rw [beq_eq_false_iff_ne]; exact hz
    have ht' : (ten d == 0) = false := by rw [beq_eq_false_iff_ne]; omega
    clear hu hz
    have hpp : pp = rp + d := by omega
    clear hp
    subst hpp
    go_enter Try.func8, Try.ntmps8
    go_wp2_with fail
    refine (pow_int _ d (by omega) _ hd).mono ?_
    rintro e w' ⟨rfl, rfl⟩
    go_wp2_with fail
    go_ret
    exact ⟨by simp, rfl⟩

theorem tmod_ne {r : Int} (h : ¬ r % 10 = 0) : (r.tmod 10 != 0) = true := by
  rw [bne_iff_ne]
  intro h2
  apply h
  have := Int.dvd_of_tmod_eq_zero h2
  omega

set_option maxHeartbeats 400000 in
theorem canon_any (pu pp m ru rp : Int) (d : Nat) (w : World) (hp : rp = pp - d) (hu : pu = ru * ten d) (b1 : -9223372036854775808 ≤ pu) (b2 : pu ≤ 9223372036854775807) (b3 : -2147483648 ≤ pp) (b4 : pp ≤ 2147483647) (b5 : -2147483648 ≤ rp)
    (h1 : d = 0 ∨ m ≤ rp) (h2 : rp ≤ m ∨ ¬ ru % 10 = 0) :
    Calls Try.prog 6 #[.int .i64 pu, .int .i32 pp, .int .i32 m, .int .i64 ru, .int .i32 rp] w fun e w' => e = .returned (.bool true) ∧ w' = w := by
  have C := same_any pu pp ru rp d w hp hu b1 b2 b3 b4 b5
  by_cases hd : d = 0
  · have e1 : (rp != pp) = false := by rw [bne_eq_false_iff_eq]; omega
    by_cases hm : rp ≤ m
    · clear h1 h2 hp hu
      go_enter Try.func6, Try.ntmps6
      go_wp2_with fail
      refine C.mono ?_
      rintro e w' ⟨rfl, rfl⟩
      go_wp2
      go_ret
      exact ⟨rfl, rfl⟩
    · have e2 := tmod_ne (h2.resolve_left hm)
      clear h1 h2 hp hu
      go_enter Try.func6, Try.ntmps6
      go_wp2_with fail
      refine C.mono ?_
      rintro e w' ⟨rfl, rfl⟩
      go_wp2
      go_ret
      exact ⟨rfl, rfl⟩
  · have e1 : (rp != pp) = true := by rw [bne_iff_ne]; omega
    have e3 : m ≤ rp := h1.resolve_left hd
    by_cases hm : rp ≤ m
    · clear h1 h2 hp hu
      go_enter Try.func6, Try.ntmps6
      go_wp2_with fail
      refine C.mono ?_
      rintro e w' ⟨rfl, rfl⟩
      go_wp2
      go_ret
      exact ⟨rfl, rfl⟩
    · have e2 := tmod_ne (h2.resolve_left hm)
      clear h1 h2 hp hu
      go_enter Try.func6, Try.ntmps6
      go_wp2_with fail
      refine C.mono ?_
      rintro e w' ⟨rfl, rfl⟩
      go_wp2
      go_ret
      exact ⟨rfl, rfl⟩
end Go.Proofs.Qxb6619323a
