import Derived.Test.Qxb6619286aRows
import Derived.WalkKit
import Derived.ProofKit
import Derived.OpenShut
import Derived.ShutString
import Derived.Deep.QuietTactic
import Derived.BigQuiet
import Derived.WalkSmall
namespace Go.Proofs.Qxb6619286a
open Go.RowKit

/-- A slice of n elements: where n is not 0 its cells lie from (b, off) on and hold V 0, V 1, .. -/
def Row (w : World) (a : Option Addr) (n : Nat) (V : Nat → Value) : Prop :=
  0 < n → ∃ b off, a = some ⟨b, off, none⟩ ∧ ∀ i, i < n → w.cell? ⟨b, off + i, none⟩ = some (V i)
/-- its elements are strings, int64s, bools -/
def SV (f : Nat → ByteArray) : Nat → Value := fun i => .string (f i)
def IV (f : Nat → Int) : Nat → Value := fun i => .int .i64 (f i)
def BV (f : Nat → Bool) : Nat → Value := fun i => .bool (f i)

theorem cell_lt {w : World} {b o : Nat} {v : Value} (h : w.cell? ⟨b, o, none⟩ = some v) : b < w.heap.size := by
  by_cases hlt : b < w.heap.size
  · exact hlt
  · exfalso
    have : w.heap[b]? = none := by simp; omega
    simp [World.cell?, this] at h

/-- All that lies below B stays: so does a row that came in. -/
theorem Row.keep {w w' : World} {a : Option Addr} {n : Nat} {V : Nat → Value} (h : Row w a n V) (hb : Below w.heap.size w w') : Row w' a n V := by
  intro hn
  obtain ⟨b, off, ha, hc⟩ := h hn
  exact ⟨b, off, ha, fun i hi => (hb.cell (p := ⟨b, off + i, none⟩) (cell_lt (hc i hi))).trans (hc i hi)⟩

/-- It hands back some bool. -/
def RetBool (e : Ending) : Prop := ∃ x : Bool, e = .returned (.bool x)
theorem retBool (x : Bool) : RetBool (.returned (.bool x)) := ⟨x, rfl⟩
/-- It hands back a total and a bool. -/
def RetTot (e : Ending) : Prop := ∃ (t : Int) (x : Bool), e = .returned (.tuple #[.int .i64 t, .bool x]) ∧ 0 ≤ t ∧ t ≤ 1048576
theorem retTot (t : Int) (x : Bool) (h0 : 0 ≤ t) (h1 : t ≤ 1048576) : RetTot (.returned (.tuple #[.int .i64 t, .bool x])) := ⟨t, x, rfl, h0, h1⟩

set_option maxHeartbeats 400000 in
theorem str_any (a : Option Addr) (n cap : Nat) (f : Nat → ByteArray) (t : Int) (w : World) (hn : n ≤ 4096) (h0 : 0 ≤ t) (h1 : t ≤ 1048576) (h : Row w a n (SV f)) :
    Calls Try.prog 5 #[.slice a n cap, .int .i64 t] w fun e w' => RetTot e ∧ w' = w := by
  go_enter Try.func5, Try.ntmps5
  go_wp2
  go_loop [1, 6] (fun z i => ∃ (k : Nat) (q : Int), k ≤ n ∧ 0 ≤ q ∧ q ≤ 1048576 ∧ i = .int .i64 k ∧ z = .int .i64 q) (fun _ i => n - (intOf i).toNat)
  case atStart => exact ⟨0, t, Nat.zero_le _, h0, h1, rfl, rfl⟩
  case round =>
    obtain ⟨k, q, hk, hq0, hq1, rfl, rfl⟩ := hrel
    by_cases hlt : k < n
    · obtain ⟨b, off, rfl, hc⟩ := h (by omega)
      have hck : w.cell? ⟨b, off + k, none⟩ = some (.string (f k)) := hc k hlt
      clear hc h
      go_wp2
      · go_ret2
        exact ⟨retTot _ _ hq0 hq1, rfl⟩
      · go_round
        case rel => exact ⟨k + 1, q + (f k).size, by omega, by omega, by omega, by go_num, by go_num⟩
        case measure => simp [intOf]; omega
    · go_wp2
      go_ret2
      exact ⟨retTot _ _ hq0 hq1, rfl⟩

theorem ret_int {k : IntKind} {a b : Int} (h : a = b) : Ending.returned (.int k a) = .returned (.int k b) := by rw [h]
/-- the lesser of two lengths -/
def mn (x y : Nat) : Nat := if x < y then x else y
theorem mn_le (x y : Nat) : mn x y ≤ x ∧ mn x y ≤ y := by unfold mn; split <;> omega

theorem min_any (x y : Nat) (w : World) : Calls Try.prog 6 #[.int .i64 x, .int .i64 y] w fun e w' => e = .returned (.int .i64 (mn x y)) ∧ w' = w := by
  by_cases h : x < y
  · go_enter Try.func6, Try.ntmps6
    go_wp2
    go_ret
    exact ⟨ret_int (by unfold mn; rw [if_pos h]), rfl⟩
  · go_enter Try.func6, Try.ntmps6
    go_wp2
    go_ret
    exact ⟨ret_int (by unfold mn; rw [if_neg (by omega)]), rfl⟩

/-- 'joins' -/
def joins (p c : ByteArray) : Bool := !(p.toList.isEmpty) && !(c.toList.isEmpty) && !(p.toList == c.toList)

end Go.Proofs.Qxb6619286a
