import Derived.Test.Qxb6619286aPlain
import Derived.Test.Qxb6619286aBytes
import Derived.Test.Qxb6619286aLoop1
import Derived.Test.Qxb6619286aLoop2
import Derived.Test.Qxb6619286aLoop3
import Derived.Test.Qxb6619286aLoop5
import Derived.Test.Qxb6619286aLoop7
namespace Go.Proofs.Qxb6619286a
open Go.RowKit

theorem own_lt {w : World} {base e g cap : Nat} (h : w.ownsRow base e 1 (.slice (some ⟨g, 0, none⟩) 0 cap) 0 []) : g < w.heap.size := by
  obtain ⟨_, ⟨h2, _⟩ | ⟨g', c, cur, hv, _, hh, _⟩⟩ := h
  · cases h2
  · injection hv with h1 h2 h3
    injection h1 with h1
    injection h1 with h1
    subst h1
    exact heap_lt hh
theorem kept_none {w w1 : World} {base e n cap g : Nat} {xs : List Value} (h : w.ownsRow base e 1 (.slice (some ⟨g, 0, none⟩) n cap) n xs) (hg : w.grownBy w1 none) : w1.ownsRow base e 1 (.slice (some ⟨g, 0, none⟩) n cap) n xs :=
  h.kept hg (Or.inr (by simp [Value.ownBlock]))
theorem len_is {B n : Nat} {ks : List (ByteArray × ByteArray)} {C E : ByteArray × ByteArray → Int} {w : World} {m : Nat} (h : Links w B n ks C E) (hm : ks.length = m) :
    Calls Try.prog 11 #[.map (some B)] w fun e w' => e = .returned (.int .i64 m) ∧ w' = w := by
  subst hm; exact len_any B n ks C E w h

set_option maxRecDepth 100000 in
set_option maxHeartbeats 4000000 in
theorem main_long (a0 a1 a2 a3 a4 a5 a6 : Option Addr) (n0 c0 n1 c1 n2 c2 n3 c3 n4 c4 n5 c5 n6 c6 : Nat) (f0 f1 : Nat → ByteArray) (z2 z3 : Nat → Int) (f4 f5 : Nat → ByteArray) (b6 : Nat → Bool) (w : World) (h0 : Row w a0 n0 (SV f0)) (h1 : Row w a1 n1 (SV f1)) (h2 : Row w a2 n2 (IV z2)) (h3 : Row w a3 n3 (IV z3)) (h4 : Row w a4 n4 (SV f4)) (h5 : Row w a5 n5 (SV f5)) (h6 : Row w a6 n6 (BV b6)) (hlong : ¬ (n0 ≤ 4096 ∧ n1 ≤ 4096 ∧ n2 ≤ 4096 ∧ n3 ≤ 4096)) :
    Calls Try.prog 3 #[.slice a0 n0 c0, .slice a1 n1 c1, .slice a2 n2 c2, .slice a3 n3 c3, .slice a4 n4 c4, .slice a5 n5 c5, .slice a6 n6 c6] w fun e w' => e = .returned (.bool true) ∧ Below w.heap.size w w' := by
  go_enter Try.func3, Try.ntmps3
  go_wp2_with fail
  refine (bytes_any _ _ _ _ _ _ _ _ _ _ _ _ _ _ _ _ _ _ _ _ _ _ _ _ _ _ h0 h1 h4 h5).mono ?_
  rintro e w' ⟨⟨x, rfl⟩, rfl⟩
  cases x with
  | false =>
    go_wp2
    go_ret
    exact ⟨rfl, Below.refl _ _⟩
  | true =>
    by_cases g0 : n0 ≤ 4096
    · by_cases g1 : n1 ≤ 4096
      · by_cases g2 : n2 ≤ 4096
        · have g3 : 4096 < n3 := by omega
          clear hlong
          go_wp2_with fail
          go_ret
          exact ⟨rfl, Below.refl _ _⟩
        · clear hlong
          go_wp2_with fail
          go_ret
          exact ⟨rfl, Below.refl _ _⟩
      · clear hlong
        go_wp2_with fail
        go_ret
        exact ⟨rfl, Below.refl _ _⟩
    · clear hlong
      go_wp2_with fail
      go_ret
      exact ⟨rfl, Below.refl _ _⟩

set_option maxRecDepth 100000 in
set_option maxHeartbeats 4000000 in
theorem main_long2 (a0 a1 a2 a3 a4 a5 a6 : Option Addr) (n0 c0 n1 c1 n2 c2 n3 c3 n4 c4 n5 c5 n6 c6 : Nat) (f0 f1 : Nat → ByteArray) (z2 z3 : Nat → Int) (f4 f5 : Nat → ByteArray) (b6 : Nat → Bool) (w : World) (h0 : Row w a0 n0 (SV f0)) (h1 : Row w a1 n1 (SV f1)) (h2 : Row w a2 n2 (IV z2)) (h3 : Row w a3 n3 (IV z3)) (h4 : Row w a4 n4 (SV f4)) (h5 : Row w a5 n5 (SV f5)) (h6 : Row w a6 n6 (BV b6)) (g0 : n0 ≤ 4096) (g1 : n1 ≤ 4096) (g2 : n2 ≤ 4096) (g3 : n3 ≤ 4096) (hlong : ¬ (n4 ≤ 4096 ∧ n5 ≤ 4096 ∧ n6 ≤ 4096)) :
    Calls Try.prog 3 #[.slice a0 n0 c0, .slice a1 n1 c1, .slice a2 n2 c2, .slice a3 n3 c3, .slice a4 n4 c4, .slice a5 n5 c5, .slice a6 n6 c6] w fun e w' => e = .returned (.bool true) ∧ Below w.heap.size w w' := by
  go_enter Try.func3, Try.ntmps3
  go_wp2_with fail
  refine (bytes_any _ _ _ _ _ _ _ _ _ _ _ _ _ _ _ _ _ _ _ _ _ _ _ _ _ _ h0 h1 h4 h5).mono ?_
  rintro e w' ⟨⟨x, rfl⟩, rfl⟩
  cases x with
  | false =>
    go_wp2
    go_ret
    exact ⟨rfl, Below.refl _ _⟩
  | true =>
    by_cases g4 : n4 ≤ 4096
    · by_cases g5 : n5 ≤ 4096
      · have g6 : 4096 < n6 := by omega
        clear hlong
        go_wp2_with fail
        go_ret
        exact ⟨rfl, Below.refl _ _⟩
      · clear hlong
        go_wp2_with fail
        go_ret
        exact ⟨rfl, Below.refl _ _⟩
    · clear hlong
      go_wp2_with fail
      go_ret
      exact ⟨rfl, Below.refl _ _⟩

end Go.Proofs.Qxb6619286a
