import Derived.Test.Qxb6619296aRows
import Derived.WalkKit
import Derived.ProofKit
import Derived.OpenShut
import Derived.ShutString
import Derived.Deep.QuietTactic
import Derived.BigQuiet
namespace Go.Proofs.Qxb6619296a
open Go.RowKit

/-- A slice of n strings: where n is not 0 its cells lie from (b, off) on and hold f 0, f 1, .. -/
def Row (w : World) (a : Option Addr) (n : Nat) (f : Nat → ByteArray) : Prop :=
  0 < n → ∃ b off, a = some ⟨b, off, none⟩ ∧ ∀ i, i < n → w.cell? ⟨b, off + i, none⟩ = some (.string (f i))

theorem Row.keep {w w' : World} {a : Option Addr} {n : Nat} {f : Nat → ByteArray} (h : Row w a n f) (hb : Below w.heap.size w w') : Row w' a n f := by
  intro hn
  obtain ⟨b, off, ha, hc⟩ := h hn
  refine ⟨b, off, ha, fun i hi => ?_⟩
  have := hc i hi
  rw [← this]
  refine hb.cell ?_
  have h0 := hc i hi
  show b < w.heap.size
  by_cases hlt : b < w.heap.size
  · exact hlt
  · exfalso
    have : w.heap[b]? = none := by simp; omega
    simp [World.cell?, this] at h0

/-- It hands back some bool. -/
def RetBool (e : Ending) : Prop := ∃ x : Bool, e = .returned (.bool x)
theorem retBool (x : Bool) : RetBool (.returned (.bool x)) := ⟨x, rfl⟩

set_option maxHeartbeats 400000 in
theorem bytes7 (u : ByteArray) (a : Option Addr) (n cap : Nat) (f : Nat → ByteArray) (w : World) (h : Row w a n f) :
    Calls Try.prog 7 #[.string u, .slice a n cap] w fun e w' => RetBool e ∧ w' = w := by
  go_enter Try.func7, Try.ntmps7
  go_wp2
  all_goals try (go_ret; exact ⟨retBool _, rfl⟩)
  go_loop [5, 6] (fun z i => ∃ k q : Nat, k ≤ n ∧ q ≤ 1048576 ∧ i = .int .i64 k ∧ z = .int .i64 q) (fun _ i => n - (intOf i).toNat)
  case atStart => exact ⟨0, u.size + n, Nat.zero_le _, by omega, rfl, by go_num⟩
  case round =>
    obtain ⟨k, q, hk, hq, rfl, rfl⟩ := hrel
    by_cases hlt : k < n
    · obtain ⟨b, off, rfl, hc⟩ := h (by omega)
      have hck := hc k hlt
      clear hc h
      go_wp2
      all_goals try (go_ret; exact ⟨retBool _, rfl⟩)
      go_round
      case rel => exact ⟨k + 1, q + (f k).size, by omega, by omega, by go_num, by go_num⟩
      case measure => simp [intOf]; omega
    · go_wp2
      go_ret
      exact ⟨retBool _, rfl⟩

set_option maxHeartbeats 400000 in
theorem bytes13 (u : ByteArray) (a : Option Addr) (n cap : Nat) (f : Nat → ByteArray) (v : ByteArray) (w : World) (h : Row w a n f) :
    Calls Try.prog 13 #[.string u, .slice a n cap, .string v] w fun e w' => RetBool e ∧ w' = w := by
  go_enter Try.func13, Try.ntmps13
  go_wp2
  all_goals try (go_ret; exact ⟨retBool _, rfl⟩)
  go_loop [7, 8] (fun z i => ∃ k q : Nat, k ≤ n ∧ q ≤ 1048576 ∧ i = .int .i64 k ∧ z = .int .i64 q) (fun _ i => n - (intOf i).toNat)
  case atStart => exact ⟨0, u.size + n, Nat.zero_le _, by omega, rfl, by go_num⟩
  case round =>
    obtain ⟨k, q, hk, hq, rfl, rfl⟩ := hrel
    by_cases hlt : k < n
    · obtain ⟨b, off, rfl, hc⟩ := h (by omega)
      have hck := hc k hlt
      clear hc h
      go_wp2
      all_goals try (go_ret; exact ⟨retBool _, rfl⟩)
      go_round
      case rel => exact ⟨k + 1, q + (f k).size, by omega, by omega, by go_num, by go_num⟩
      case measure => simp [intOf]; omega
    · go_wp2
      all_goals (go_ret; exact ⟨retBool _, rfl⟩)

set_option maxHeartbeats 800000 in
theorem bytes14 (u : ByteArray) (a : Option Addr) (n cap : Nat) (f : Nat → ByteArray) (v : ByteArray) (a' : Option Addr) (m cap' : Nat) (g : Nat → ByteArray) (w : World) (h : Row w a n f) (h' : Row w a' m g) :
    Calls Try.prog 14 #[.string u, .slice a n cap, .string v, .slice a' m cap'] w fun e w' => RetBool e ∧ w' = w := by
  go_enter Try.func14, Try.ntmps14
  go_wp2
  all_goals try (go_ret; exact ⟨retBool _, rfl⟩)
  go_loop [9, 10] (fun z i => ∃ k q : Nat, k ≤ n ∧ q ≤ 1048576 ∧ i = .int .i64 k ∧ z = .int .i64 q) (fun _ i => n - (intOf i).toNat)
  case atStart => exact ⟨0, u.size + n, Nat.zero_le _, by omega, rfl, by go_num⟩
  case round =>
    obtain ⟨k, q, hk, hq, rfl, rfl⟩ := hrel
    by_cases hlt : k < n
    · obtain ⟨b, off, rfl, hc⟩ := h (by omega)
      have hck := hc k hlt
      clear hc h h'
      go_wp2
      all_goals try (go_ret; exact ⟨retBool _, rfl⟩)
      go_round
      case rel => exact ⟨k + 1, q + (f k).size, by omega, by omega, by go_num, by go_num⟩
      case measure => simp [intOf]; omega
    · clear h
      go_wp2
      all_goals try (go_ret; exact ⟨retBool _, rfl⟩)
      go_loop [9, 11] (fun z i => ∃ k q : Nat, k ≤ m ∧ q ≤ 1048576 ∧ i = .int .i64 k ∧ z = .int .i64 q) (fun _ i => m - (intOf i).toNat)
      case atStart => exact ⟨0, q + v.size + m, Nat.zero_le _, by omega, rfl, by go_num⟩
      case round =>
        obtain ⟨k, q, hk, hq, rfl, rfl⟩ := hrel
        by_cases hlt : k < m
        · obtain ⟨b, off, rfl, hc⟩ := h' (by omega)
          have hck := hc k hlt
          clear hc h'
          go_wp2
          all_goals try (go_ret; exact ⟨retBool _, rfl⟩)
          go_round
          case rel => exact ⟨k + 1, q + (g k).size, by omega, by omega, by go_num, by go_num⟩
          case measure => simp [intOf]; omega
        · go_wp2
          all_goals (go_ret; exact ⟨retBool _, rfl⟩)

set_option maxHeartbeats 800000 in
theorem bytes16 (u : ByteArray) (a : Option Addr) (n cap : Nat) (f : Nat → ByteArray) (a' : Option Addr) (m cap' : Nat) (g : Nat → ByteArray) (v : ByteArray) (w : World) (h : Row w a n f) (h' : Row w a' m g) :
    Calls Try.prog 16 #[.string u, .slice a n cap, .slice a' m cap', .string v] w fun e w' => RetBool e ∧ w' = w := by
  go_enter Try.func16, Try.ntmps16
  go_wp2
  all_goals try (go_ret; exact ⟨retBool _, rfl⟩)
  go_loop [9, 10] (fun z i => ∃ k q : Nat, k ≤ n ∧ q ≤ 1048576 ∧ i = .int .i64 k ∧ z = .int .i64 q) (fun _ i => n - (intOf i).toNat)
  case atStart => exact ⟨0, u.size + n, Nat.zero_le _, by omega, rfl, by go_num⟩
  case round =>
    obtain ⟨k, q, hk, hq, rfl, rfl⟩ := hrel
    by_cases hlt : k < n
    · obtain ⟨b, off, rfl, hc⟩ := h (by omega)
      have hck := hc k hlt
      clear hc h h'
      go_wp2
      all_goals try (go_ret; exact ⟨retBool _, rfl⟩)
      go_round
      case rel => exact ⟨k + 1, q + (f k).size, by omega, by omega, by go_num, by go_num⟩
      case measure => simp [intOf]; omega
    · clear h
      go_wp2
      all_goals try (go_ret; exact ⟨retBool _, rfl⟩)
      go_loop [9, 11] (fun z i => ∃ k q : Nat, k ≤ m ∧ q ≤ 1048576 ∧ i = .int .i64 k ∧ z = .int .i64 q) (fun _ i => m - (intOf i).toNat)
      case atStart => exact ⟨0, q + m, Nat.zero_le _, by omega, rfl, by go_num⟩
      case round =>
        obtain ⟨k, q, hk, hq, rfl, rfl⟩ := hrel
        by_cases hlt : k < m
        · obtain ⟨b, off, rfl, hc⟩ := h' (by omega)
          have hck := hc k hlt
          clear hc h'
          go_wp2
          all_goals try (go_ret; exact ⟨retBool _, rfl⟩)
          go_round
          case rel => exact ⟨k + 1, q + (g k).size, by omega, by omega, by go_num, by go_num⟩
          case measure => simp [intOf]; omega
        · go_wp2
          all_goals (go_ret; exact ⟨retBool _, rfl⟩)
end Go.Proofs.Qxb6619296a
