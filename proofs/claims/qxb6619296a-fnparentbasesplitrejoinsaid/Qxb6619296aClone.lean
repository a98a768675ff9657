import Derived.Test.Qxb6619296aPath
import Derived.WalkSpells
namespace Go.Proofs.Qxb6619296a
open Go.RowKit

/-- What zzLeft hands back, and that no string is long. -/
def LeftFull (B : Int) (n : Nat) (f : Nat → ByteArray) (e : Ending) : Prop := ∃ r : Int, e = .returned (.int .i64 r) ∧ (0 ≤ r → 0 ≤ B ∧ 16 * (n : Int) ≤ B ∧ ∀ i, i < n → ((f i).size : Int) ≤ B)
theorem fullNo (B : Int) (n : Nat) (f : Nat → ByteArray) : LeftFull B n f (.returned (.int .i64 (-1))) := ⟨-1, rfl, by omega⟩

set_option maxHeartbeats 400000 in
theorem left_full (B : Int) (u : ByteArray) (a : Option Addr) (n cap : Nat) (f : Nat → ByteArray) (w : World) (hB1 : -1 ≤ B) (hB2 : B ≤ 1048576) (h : Row w a n f) :
    Calls Try.prog 8 #[.int .i64 B, .string u, .slice a n cap] w fun e w' => LeftFull B n f e ∧ w' = w := by
  by_cases hB : B < 0
  · go_enter Try.func8, Try.ntmps8
    go_wp2
    go_ret
    exact ⟨fullNo _ _ _, rfl⟩
  · by_cases hu : B < u.size
    · go_enter Try.func8, Try.ntmps8
      go_wp2
      go_ret
      exact ⟨fullNo _ _ _, rfl⟩
    · go_enter Try.func8, Try.ntmps8
      go_wp2
      all_goals try (go_ret; exact ⟨fullNo _ _ _, rfl⟩)
      go_loop [0, 7] (fun z i => ∃ (k : Nat) (r : Int), k ≤ n ∧ 0 ≤ r ∧ r ≤ B ∧ i = .int .i64 k ∧ z = .int .i64 r ∧ ∀ j, j < k → ((f j).size : Int) ≤ B) (fun _ i => n - (intOf i).toNat)
      case atStart => exact ⟨0, B - u.size - 16 * n, Nat.zero_le _, by omega, by omega, rfl, by go_num, fun j hj => absurd hj (Nat.not_lt_zero _)⟩
      case round =>
        obtain ⟨k, r, hk, hr0, hr1, rfl, rfl, hall⟩ := hrel
        have HA : Hid (∀ j, j < k → ((f j).size : Int) ≤ B) := hall
        clear hall
        by_cases hlt : k < n
        · obtain ⟨b, off, rfl, hc⟩ := h (by omega)
          have hck := hc k hlt
          clear hc h
          go_wp2
          all_goals try (go_ret; exact ⟨fullNo _ _ _, rfl⟩)
          go_round
          case rel => exact ⟨k + 1, r - (f k).size, by omega, by omega, by omega, by go_num, by go_num, fun j hj => by
            by_cases hjk : j = k
            · subst hjk; omega
            · exact HA.out j (by omega)⟩
          case measure => simp [intOf]; omega
        · have hkn : Hid (k = n) := by show k = n; omega
          go_wp2
          go_ret
          exact ⟨⟨r, rfl, fun _ => ⟨by omega, by omega, hkn.out ▸ HA.out⟩⟩, rfl⟩

/-- A slice of n strings, no spare room. -/
def IsCopy (n : Nat) (f : Nat → ByteArray) (e : Ending) (w' : World) : Prop := ∃ a', e = .returned (.slice a' n n) ∧ Row w' a' n f ∧ (a' = none → n = 0)

set_option maxHeartbeats 400000 in
theorem clone_some (x : Addr) (n cap : Nat) (f : Nat → ByteArray) (w : World) (hn : n ≤ 1048576) (h : Row w (some x) n f) :
    Calls Try.prog 9 #[.slice (some x) n cap] w fun e w' => IsCopy n f e w' ∧ Below w.heap.size w w' := by
  obtain ⟨i0, hi, hz0, hz1, hz2⟩ := info_parts info9
  have q22 : ∀ (w : World) (a : Option Addr) (n c n' c' : Nat), (binOp .eql 22 (.slice a n c) (.slice none n' c')).run Try.prog w = .ok (.bool a.isNone) w := fun w a n c n' c' => Lib.run_eql_slice_nil w _ _ a n c n' c' Try.underlying22
  go_enter Try.func9, Try.ntmps9
  go_wp2_with (at_make; refine wpList_make_full _ rfl (.tmp 8) (.tmp 8) 22 rfl w.heap.size 9 i0 (.string ByteArray.empty) 1 Try.underlying22 hi hz0 hz1 .i64 .i64 _ _ n rfl rfl (by omega) (by omega) (by rw [hz2]; omega) (by unfold maxLen; omega) (Nat.le_refl _) ?_)
  clear q22
  intro w1 hown hgrow
  have hm1 := Made.of_make hown
  have hbl : Below w.heap.size w w1 := (Below.refl _ _).grown hgrow (Nat.le_refl _) (fun k hk => by cases hk)
  clear hown hgrow
  go_wp2_with fail
  go_loopw [4] (fun i wr => ∃ k : Nat, k ≤ n ∧ i = .int .i64 k ∧ Made wr w.heap.size n (part f k) ∧ Below w.heap.size w wr) (fun i _ => n - (intOf i).toNat)
  case atStart => exact ⟨0, Nat.zero_le _, rfl, Made.none _ hm1, hbl⟩
  case round =>
    clear hm1 hbl
    obtain ⟨k, hk, rfl, hmade, hbl⟩ := hrel
    by_cases hlt : k < n
    · obtain ⟨b, off, hx, hc⟩ := (h.keep hbl) (by omega)
      obtain rfl : x = ⟨b, off, none⟩ := by injection hx
      have hck := hc k hlt
      have hcm := hmade.cell (i := k) (by omega)
      have hfm := hmade.frozen k
      have MN := hmade.next (by omega) (rfl : f k = f k)
      clear hc h hmade
      go_wp2
      go_roundw
      case rel => exact ⟨k + 1, by omega, by go_num, MN, hbl.setCell (Nat.le_refl _) _⟩
      case measure => simp [intOf]; omega
    · have hkn : k = n := by omega
      rw [hkn] at hmade
      have M := hmade.whole
      clear hkn hmade h
      go_wp2_with fail
      go_ret
      exact ⟨⟨_, rfl, M.row, fun h => by cases h⟩, hbl⟩

set_option maxHeartbeats 400000 in
theorem clone_nil (f : Nat → ByteArray) (w : World) :
    Calls Try.prog 9 #[.slice none 0 0] w fun e w' => IsCopy 0 f e w' ∧ Below w.heap.size w w' := by
  have q22 : ∀ (w : World) (a : Option Addr) (n c n' c' : Nat), (binOp .eql 22 (.slice a n c) (.slice none n' c')).run Try.prog w = .ok (.bool a.isNone) w := fun w a n c n' c' => Lib.run_eql_slice_nil w _ _ a n c n' c' Try.underlying22
  go_enter Try.func9, Try.ntmps9
  go_wp2
  go_ret
  exact ⟨⟨none, rfl, fun h => absurd h (Nat.lt_irrefl _), fun _ => rfl⟩, Below.refl _ _⟩

theorem clone_any (a : Option Addr) (n cap : Nat) (f : Nat → ByteArray) (w : World) (hn : n ≤ 1048576) (hnil : a = none → n = 0 ∧ cap = 0) (h : Row w a n f) :
    Calls Try.prog 9 #[.slice a n cap] w fun e w' => IsCopy n f e w' ∧ Below w.heap.size w w' := by
  cases a with
  | none =>
    obtain ⟨rfl, rfl⟩ := hnil rfl
    exact clone_nil f w
  | some x => exact clone_some x n cap f w hn h
end Go.Proofs.Qxb6619296a
