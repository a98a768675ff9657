import Derived.Test.Qxb6619296aPath
import Derived.WalkSmall
namespace Go.Proofs.Qxb6619296a
open Go.RowKit

theorem bcell' {W w1 : World} (hb : Below W.heap.size W w1) : (∀ b o, b < W.heap.size → w1.cell? ⟨b, o, none⟩ = W.cell? ⟨b, o, none⟩) ∧ (∀ b o, b < W.heap.size → w1.frozen? ⟨b, o, none⟩ = W.frozen? ⟨b, o, none⟩) :=
  ⟨fun b o h => hb.cell (p := ⟨b, o, none⟩) h, fun b o h => hb.frozen (p := ⟨b, o, none⟩) h⟩

/-- The made row's first n strings are f's. -/
theorem eq_made (n : Nat) (f : Nat → ByteArray) (g : Nat → ByteArray) : eqB n n (join n f g) f = true :=
  eqB_yes fun _ hj => (join_lo f g hj).symm

theorem eq_call (B n c : Nat) (f g : Nat → ByteArray) (a : Option Addr) (cap : Nat) (w : World) (hn : n ≤ 1048576) (h : Row w (some ⟨B, 0, none⟩) n (join n f g)) (h' : Row w a n f) :
    Calls Try.prog 12 #[.slice (some ⟨B, 0, none⟩) n c, .slice a n cap] w fun e w' => e = .returned (.bool true) ∧ ∃ q, w' = w.drewN q := by
  have C := equal_any (some ⟨B, 0, none⟩) n c (join n f g) a n cap f w hn h h'
  rw [eq_made] at C
  exact C

theorem base_made (u : ByteArray) (B n : Nat) (f : Nat → ByteArray) (v : ByteArray) (w : World) (hn : n < 1048576) (h : Row w (some ⟨B, 0, none⟩) (n + 1) (join n f fun _ => v)) :
    Calls Try.prog 11 #[.agg #[.string u, .slice (some ⟨B, 0, none⟩) (n + 1) (n + 1)]] w fun e w' => e = .returned (.string v) ∧ Below w.heap.size w w' := by
  have C := base_some u (some ⟨B, 0, none⟩) (n + 1) (n + 1) (join n f fun _ => v) w (by omega) (by omega) h
  have e : join n f (fun _ => v) (n + 1 - 1) = v := (join_hi n 0 f fun _ => v).symm
  rw [e] at C
  exact C

theorem parent_made (u : ByteArray) (B n : Nat) (f : Nat → ByteArray) (w : World) (hn : n < 1048576) (h : Row w (some ⟨B, 0, none⟩) (n + 1) f) :
    Calls Try.prog 10 #[.agg #[.string u, .slice (some ⟨B, 0, none⟩) (n + 1) (n + 1)]] w fun e w' => e = .returned (.agg #[.string u, .slice (some ⟨B, 0, none⟩) n n]) ∧ Below w.heap.size w w' :=
  parent_some u (some ⟨B, 0, none⟩) (n + 1) (n + 1) f w (by omega) (by omega) (Nat.le_refl _) h

theorem Row.last {w : World} {B n : Nat} {f : Nat → ByteArray} {v : ByteArray} (h : Row w (some ⟨B, 0, none⟩) (n + 1) (join n f fun _ => v)) : w.cell? ⟨B, n, none⟩ = some (.string v) := by
  obtain ⟨b, off, ha, hc⟩ := h (by omega)
  have := hc n (by omega)
  injection ha with ha
  injection ha with h1 h2
  subst h1 h2
  rw [Nat.zero_add] at this
  rw [this]
  exact congrArg (fun x => some (Value.string x)) (join_hi n 0 f fun _ => v).symm

set_option maxHeartbeats 800000 in
theorem app_any (u : ByteArray) (a : Option Addr) (n cap : Nat) (f : Nat → ByteArray) (v : ByteArray) (w : World) (h : Row w a n f) :
    Calls Try.prog 4 #[.string u, .slice a n cap, .string v] w fun e w' => e = .returned (.bool true) ∧ Below w.heap.size w w' := by
  obtain ⟨i0, hi, hz0, hz1, hz2⟩ := info_parts info9
  go_enter Try.func4, Try.ntmps4
  go_wp2_with fail
  refine (bytes13 _ _ _ _ _ _ _ h).mono ?_
  rintro e w' ⟨⟨x, rfl⟩, rfl⟩
  cases x with
  | false =>
    go_wp2
    go_ret
    exact ⟨rfl, Below.refl _ _⟩
  | true =>
    go_wp2_with fail
    refine (left_any _ _ _ _ _ _ _ (by omega) (by omega) h).mono ?_
    rintro e w ⟨⟨r, rfl, hr1, hr2, hr3⟩, rfl⟩
    by_cases hr16 : r < 16
    · go_wp2
      go_ret
      exact ⟨rfl, Below.refl _ _⟩
    · have hb1 : 16 * (n : Int) ≤ 1048576 := (hr3 (by omega)).2
      clear hr3
      by_cases hv : r - 16 < v.size
      · go_wp2
        go_ret
        exact ⟨rfl, Below.refl _ _⟩
      · go_wp2_with (at_make; refine wpList_make_full _ rfl (.tmp 34) (.tmp 34) 22 rfl w.heap.size 9 i0 (.string ByteArray.empty) 1 Try.underlying22 hi hz0 hz1 .i64 .i64 _ _ (n + 1) rfl rfl (by omega) (by omega) (by rw [hz2]; omega) (by unfold maxLen; omega) (Nat.le_refl _) ?_)
        intro w1 hown hgrow
        have hm1 := Made.of_make hown
        have hbl : Below w.heap.size w w1 := (Below.refl _ _).grown hgrow (Nat.le_refl _) (fun k hk => by cases hk)
        clear hown hgrow
        go_wp2_with fail
        go_loopw [10] (fun i wr => ∃ k : Nat, k ≤ n ∧ i = .int .i64 k ∧ Made wr w.heap.size (n + 1) (part (join n f fun _ => v) k) ∧ Below w.heap.size w wr) (fun i _ => n - (intOf i).toNat)
        case atStart => exact ⟨0, Nat.zero_le _, rfl, Made.none _ hm1, hbl⟩
        case round =>
          clear hm1 hbl
          obtain ⟨k, hk, rfl, hmade, hbl⟩ := hrel
          by_cases hlt : k < n
          · obtain ⟨b, off, rfl, hc⟩ := (h.keep hbl) (by omega)
            have hck := hc k hlt
            have hcm := hmade.cell (i := k) (by omega)
            have hfm := hmade.frozen k
            have MN := hmade.next (by omega) (join_lo f (fun _ => v) hlt)
            clear hc h hmade
            go_wp2
            go_roundw
            case rel => exact ⟨k + 1, by omega, by go_num, MN, hbl.setCell (Nat.le_refl _) _⟩
            case measure => simp [intOf]; omega
          · have hkn : k = n := by omega
            rw [hkn] at hmade
            have hcm := hmade.cell (i := n) (by omega)
            have hfm := hmade.frozen n
            have MN := (hmade.next (by omega) (join_hi n 0 f fun _ => v)).whole
            have hb2 := hbl.setCell (p := ⟨w.heap.size, n, none⟩) (Nat.le_refl _) (.string v)
            have hR := h.keep hb2
            clear hkn hmade hbl h
            have R1 := MN.row.keep (one_new _ (.cells #[.string u, .slice (some ⟨w.heap.size, 0, none⟩) (n + 1) (n + 1)] 27))
            have R2 := hR.keep (one_new _ (.cells #[.string u, .slice (some ⟨w.heap.size, 0, none⟩) (n + 1) (n + 1)] 27))
            have BL := hb2.trans ((one_new _ (.cells #[.string u, .slice (some ⟨w.heap.size, 0, none⟩) (n + 1) (n + 1)] 27)).mono hb2.size)
            clear MN hR hb2
            go_wp2_with fail
            refine (base_made u w.heap.size n f v _ (by omega) R1).mono ?_
            rintro e w2 ⟨rfl, hbA⟩
            obtain ⟨hcA, hfA⟩ := bcell' hbA
            have hsA : wr.heap.size < w2.heap.size := by have := hbA.size; simp at this; omega
            have R3 := R1.keep hbA
            have R4 := R2.keep hbA
            have BL2 := BL.trans (hbA.mono BL.size)
            clear R1 R2 BL
            go_wp2_with fail
            refine (parent_made u w.heap.size n _ _ (by omega) R3).mono ?_
            rintro e w3 ⟨rfl, hbB⟩
            have hx : Below w2.heap.size w2 (w3.alloc (.cells #[.string u, .slice (some ⟨w.heap.size, 0, none⟩) n n] 27)) := hbB.trans ((one_new _ _).mono hbB.size)
            have R5 := R3.keep hx
            have R6 := R4.keep hx
            have R7 := R5.shorter (m := n) (by omega)
            have hlast := R5.last
            have BL3 := BL2.trans (hx.mono BL2.size)
            clear R3 R4 R5 BL2 hcA hfA hbA hbB hx
            go_wp2_with fail
            refine (eq_call w.heap.size n n f (fun _ => v) a cap _ (by omega) R7 R6).mono ?_
            rintro e w4 ⟨rfl, q4, rfl⟩
            go_wp2_with fail
            refine (eq_call w.heap.size n (n + 1) f (fun _ => v) a cap _ (by omega) (by exact R7) (by exact R6)).mono ?_
            rintro e w5 ⟨rfl, q5, rfl⟩
            go_wp2_with fail
            go_ret
            exact ⟨rfl, below_drewN BL3 _⟩
end Go.Proofs.Qxb6619296a
