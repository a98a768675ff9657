import Derived.Test.Qxb6619286aBase
namespace Go.Proofs.Qxb6619286a
open Go.RowKit

set_option maxHeartbeats 4000000 in
theorem bytes_any (a0 a1 a2 a3 a4 a5 a6 : Option Addr) (n0 c0 n1 c1 n2 c2 n3 c3 n4 c4 n5 c5 n6 c6 : Nat) (f0 f1 f4 f5 : Nat → ByteArray) (w : World) (h0 : Row w a0 n0 (SV f0)) (h1 : Row w a1 n1 (SV f1)) (h4 : Row w a4 n4 (SV f4)) (h5 : Row w a5 n5 (SV f5)) :
    Calls Try.prog 4 #[.slice a0 n0 c0, .slice a1 n1 c1, .slice a2 n2 c2, .slice a3 n3 c3, .slice a4 n4 c4, .slice a5 n5 c5, .slice a6 n6 c6] w fun e w' => RetBool e ∧ w' = w := by
  go_enter Try.func4, Try.ntmps4
  go_wp2
  all_goals try (go_ret; exact ⟨retBool _, rfl⟩)
  go_loop [15, 16] (fun z i => ∃ k q : Nat, k ≤ n0 ∧ q ≤ 1048576 ∧ i = .int .i64 k ∧ z = .int .i64 q) (fun _ i => n0 - (intOf i).toNat)
  case atStart => exact ⟨0, n0, Nat.zero_le _, by omega, rfl, by go_num⟩
  case round =>
    obtain ⟨k, q, hk, hq, rfl, rfl⟩ := hrel
    by_cases hlt : k < n0
    · obtain ⟨b, off, rfl, hc⟩ := h0 (by omega)
      have hck : w.cell? ⟨b, off + k, none⟩ = some (.string (f0 k)) := hc k hlt
      clear hc h0 h1 h4 h5
      go_wp2
      all_goals try (go_ret; exact ⟨retBool _, rfl⟩)
      go_round
      case rel => exact ⟨k + 1, q + (f0 k).size, by omega, by omega, by go_num, by go_num⟩
      case measure => simp [intOf]; omega
    · clear h0
      go_wp2
      all_goals try (go_ret; exact ⟨retBool _, rfl⟩)
      go_loop [15, 17] (fun z i => ∃ k q : Nat, k ≤ n1 ∧ q ≤ 1048576 ∧ i = .int .i64 k ∧ z = .int .i64 q) (fun _ i => n1 - (intOf i).toNat)
      case atStart => exact ⟨0, q + n1, Nat.zero_le _, by omega, rfl, by go_num⟩
      case round =>
        obtain ⟨k, q, hk, hq, rfl, rfl⟩ := hrel
        by_cases hlt : k < n1
        · obtain ⟨b, off, rfl, hc⟩ := h1 (by omega)
          have hck : w.cell? ⟨b, off + k, none⟩ = some (.string (f1 k)) := hc k hlt
          clear hc h1 h4 h5
          go_wp2
          all_goals try (go_ret; exact ⟨retBool _, rfl⟩)
          go_round
          case rel => exact ⟨k + 1, q + (f1 k).size, by omega, by omega, by go_num, by go_num⟩
          case measure => simp [intOf]; omega
        · clear h1
          go_wp2
          all_goals try (go_ret; exact ⟨retBool _, rfl⟩)
          go_loop [15, 18] (fun z i => ∃ k q : Nat, k ≤ n4 ∧ q ≤ 1048576 ∧ i = .int .i64 k ∧ z = .int .i64 q) (fun _ i => n4 - (intOf i).toNat)
          case atStart => exact ⟨0, q + n2 + n3 + n4, Nat.zero_le _, by omega, rfl, by go_num⟩
          case round =>
            obtain ⟨k, q, hk, hq, rfl, rfl⟩ := hrel
            by_cases hlt : k < n4
            · obtain ⟨b, off, rfl, hc⟩ := h4 (by omega)
              have hck : w.cell? ⟨b, off + k, none⟩ = some (.string (f4 k)) := hc k hlt
              clear hc h4 h5
              go_wp2
              all_goals try (go_ret; exact ⟨retBool _, rfl⟩)
              go_round
              case rel => exact ⟨k + 1, q + (f4 k).size, by omega, by omega, by go_num, by go_num⟩
              case measure => simp [intOf]; omega
            · clear h4
              go_wp2
              all_goals try (go_ret; exact ⟨retBool _, rfl⟩)
              go_loop [15, 19] (fun z i => ∃ k q : Nat, k ≤ n5 ∧ q ≤ 1048576 ∧ i = .int .i64 k ∧ z = .int .i64 q) (fun _ i => n5 - (intOf i).toNat)
              case atStart => exact ⟨0, q + n5, Nat.zero_le _, by omega, rfl, by go_num⟩
              case round =>
                obtain ⟨k, q, hk, hq, rfl, rfl⟩ := hrel
                by_cases hlt : k < n5
                · obtain ⟨b, off, rfl, hc⟩ := h5 (by omega)
                  have hck : w.cell? ⟨b, off + k, none⟩ = some (.string (f5 k)) := hc k hlt
                  clear hc h5
                  go_wp2
                  all_goals try (go_ret; exact ⟨retBool _, rfl⟩)
                  go_round
                  case rel => exact ⟨k + 1, q + (f5 k).size, by omega, by omega, by go_num, by go_num⟩
                  case measure => simp [intOf]; omega
                · go_wp2
                  all_goals (go_ret; exact ⟨retBool _, rfl⟩)
end Go.Proofs.Qxb6619286a
