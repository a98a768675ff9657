import Derived.Test.Qxb6619296aMade
namespace Go.Proofs.Qxb6619296a
open Go.RowKit

/-! The plain law of the extension. -/
theorem con1 (u : ByteArray) (n m : Nat) (f g : Nat → ByteArray) : conB u n f u (n + m) (join n f g) = true := by
  unfold conB
  simp only [decide_eq_true_eq, true_and]
  exact ⟨by omega, fun i hi => (join_lo f g hi).symm⟩
theorem con2 (u : ByteArray) (n m : Nat) (f g : Nat → ByteArray) : conB u (n + m) (join n f g) u n f = ((m : Int) == 0) := by
  unfold conB
  rw [Bool.eq_iff_iff]
  simp only [decide_eq_true_eq, true_and, beq_iff_eq]
  constructor
  · rintro ⟨h, _⟩; omega
  · intro h
    exact ⟨by omega, fun i hi => join_lo f g (by omega)⟩
theorem con3 (u v : ByteArray) (n m : Nat) (f g : Nat → ByteArray) : conB u n f v (n + m) (join n f g) = (v.toList == u.toList) := by
  rw [str_eq]
  unfold conB
  rw [Bool.eq_iff_iff]
  simp only [decide_eq_true_eq]
  exact ⟨fun h => h.1, fun h => ⟨h, by omega, fun i hi => (join_lo f g hi).symm⟩⟩

theorem bcell {W w1 : World} (hb : Below W.heap.size W w1) : (∀ b o, b < W.heap.size → w1.cell? ⟨b, o, none⟩ = W.cell? ⟨b, o, none⟩) ∧ (∀ b o, b < W.heap.size → w1.frozen? ⟨b, o, none⟩ = W.frozen? ⟨b, o, none⟩) :=
  ⟨fun b o h => hb.cell (p := ⟨b, o, none⟩) h, fun b o h => hb.frozen (p := ⟨b, o, none⟩) h⟩

theorem three_new (w : World) (x y z : Obj) : Below w.heap.size w (((w.alloc x).alloc y).alloc z) :=
  (((Below.refl _ _).alloc (Nat.le_refl _) _).alloc (by simp) _).alloc (by simp; omega) _

/-! The three calls of Contains. -/
theorem call1 (u : ByteArray) (a : Option Addr) (n cap : Nat) (f : Nat → ByteArray) (B m c : Nat) (g : Nat → ByteArray) (w : World) (hn : n ≤ 1048576) (h : Row w a n f) (h' : Row w (some ⟨B, 0, none⟩) (n + m) (join n f g)) :
    Calls Try.prog 15 #[.agg #[.string u, .slice a n cap], .agg #[.string u, .slice (some ⟨B, 0, none⟩) (n + m) c]] w fun e w' => e = .returned (.bool true) ∧ Below w.heap.size w w' := by
  have C := contains_any u a n cap f u (some ⟨B, 0, none⟩) (n + m) c (join n f g) w hn h h'
  rw [con1] at C
  exact C
theorem call2 (u : ByteArray) (a : Option Addr) (n cap : Nat) (f : Nat → ByteArray) (B m c : Nat) (g : Nat → ByteArray) (w : World) (hn : n + m ≤ 1048576) (h : Row w a n f) (h' : Row w (some ⟨B, 0, none⟩) (n + m) (join n f g)) :
    Calls Try.prog 15 #[.agg #[.string u, .slice (some ⟨B, 0, none⟩) (n + m) c], .agg #[.string u, .slice a n cap]] w fun e w' => e = .returned (.bool ((m : Int) == 0)) ∧ Below w.heap.size w w' := by
  have C := contains_any u (some ⟨B, 0, none⟩) (n + m) c (join n f g) u a n cap f w hn h' h
  rw [con2] at C
  exact C
theorem call3 (u v : ByteArray) (a : Option Addr) (n cap : Nat) (f : Nat → ByteArray) (B m c : Nat) (g : Nat → ByteArray) (w : World) (hn : n ≤ 1048576) (h : Row w a n f) (h' : Row w (some ⟨B, 0, none⟩) (n + m) (join n f g)) :
    Calls Try.prog 15 #[.agg #[.string u, .slice a n cap], .agg #[.string v, .slice (some ⟨B, 0, none⟩) (n + m) c]] w fun e w' => e = .returned (.bool (v.toList == u.toList)) ∧ Below w.heap.size w w' := by
  have C := contains_any u a n cap f v (some ⟨B, 0, none⟩) (n + m) c (join n f g) w hn h h'
  rw [con3] at C
  exact C

set_option maxHeartbeats 800000 in
theorem ext_any (u : ByteArray) (a : Option Addr) (n cap : Nat) (f : Nat → ByteArray) (a' : Option Addr) (m cap' : Nat) (g : Nat → ByteArray) (v : ByteArray) (w : World) (h : Row w a n f) (h' : Row w a' m g) :
    Calls Try.prog 6 #[.string u, .slice a n cap, .slice a' m cap', .string v] w fun e w' => e = .returned (.bool true) ∧ Below w.heap.size w w' := by
  obtain ⟨i0, hi, hz0, hz1, hz2⟩ := info_parts info9
  go_enter Try.func6, Try.ntmps6
  go_wp2_with fail
  refine (bytes16 _ _ _ _ _ _ _ _ _ _ _ h h').mono ?_
  rintro e w' ⟨⟨x, rfl⟩, rfl⟩
  cases x with
  | false =>
    go_wp2
    go_ret
    exact ⟨rfl, Below.refl _ _⟩
  | true =>
    go_wp2_with fail
    refine (left_any _ _ _ _ _ _ _ (by omega) (by omega) h).mono ?_
    rintro e w ⟨⟨r, rfl, hr1, hr2, hr3⟩, rfl⟩
    go_wp2_with fail
    refine (left_any _ _ _ _ _ _ _ hr1 hr2 h').mono ?_
    rintro e w' ⟨⟨r', rfl, hr1', hr2', hr3'⟩, rfl⟩
    by_cases hr : r' < 0
    · go_wp2
      go_ret
      exact ⟨rfl, Below.refl _ _⟩
    · have hb1 : 16 * (n : Int) ≤ 1048576 := (hr3 (hr3' (by omega)).1).2
      have hb2 : 16 * (m : Int) ≤ 1048576 := by have := (hr3' (by omega)).2; omega
      clear hr3 hr3' hr1 hr2 hr1' hr2'
      go_wp2_with (at_make; refine wpList_make_full _ rfl (.tmp 34) (.tmp 34) 22 rfl w'.heap.size 9 i0 (.string ByteArray.empty) 1 Try.underlying22 hi hz0 hz1 .i64 .i64 _ _ (n + m) rfl rfl (by omega) (by omega) (by rw [hz2]; omega) (by unfold maxLen; omega) (Nat.le_refl _) ?_)
      intro w1 hown hgrow
      have hm1 := Made.of_make hown
      have hbl : Below w'.heap.size w' w1 := (Below.refl _ _).grown hgrow (Nat.le_refl _) (fun k hk => by cases hk)
      clear hown hgrow
      go_wp2_with fail
      go_loopw [11] (fun i wr => ∃ k : Nat, k ≤ n ∧ i = .int .i64 k ∧ Made wr w'.heap.size (n + m) (part (join n f g) k) ∧ Below w'.heap.size w' wr) (fun i _ => n - (intOf i).toNat)
      case atStart => exact ⟨0, Nat.zero_le _, rfl, Made.none _ hm1, hbl⟩
      case round =>
        clear hm1 hbl
        obtain ⟨k, hk, rfl, hmade, hbl⟩ := hrel
        by_cases hlt : k < n
        · obtain ⟨b, off, rfl, hc⟩ := (h.keep hbl) (by omega)
          have hck := hc k hlt
          have hcm := hmade.cell (i := k) (by omega)
          have hfm := hmade.frozen k
          have MN := hmade.next (by omega) (join_lo f g hlt)
          clear hc h h' hmade
          go_wp2
          go_roundw
          case rel => exact ⟨k + 1, by omega, by go_num, MN, hbl.setCell (Nat.le_refl _) _⟩
          case measure => simp [intOf]; omega
        · have hkn : k = n := by omega
          rw [hkn] at hmade
          clear hkn
          go_wp2_with fail
          go_loopw [12] (fun i wr => ∃ k : Nat, k ≤ m ∧ i = .int .i64 k ∧ Made wr w'.heap.size (n + m) (part (join n f g) (n + k)) ∧ Below w'.heap.size w' wr) (fun i _ => m - (intOf i).toNat)
          case atStart => exact ⟨0, Nat.zero_le _, rfl, hmade, hbl⟩
          case round =>
            clear hmade hbl
            obtain ⟨k2, hk2, rfl, hmade, hbl⟩ := hrel
            by_cases hlt2 : k2 < m
            · obtain ⟨b, off, rfl, hc⟩ := (h'.keep hbl) (by omega)
              have hck := hc k2 hlt2
              have hcm := hmade.cell (i := n + k2) (by omega)
              have hfm := hmade.frozen (n + k2)
              have MN := hmade.next (by omega) (join_hi n k2 f g)
              clear hc h h' hmade
              go_wp2
              go_roundw
              case rel => exact ⟨k2 + 1, by omega, by go_num, MN, hbl.setCell (Nat.le_refl _) _⟩
              case measure => simp [intOf]; omega
            · have hkn : k2 = m := by omega
              rw [hkn] at hmade
              have hall := hmade.whole
              have hsz := hbl.size
              have hBlt := hall.lt
              clear hkn hmade
              have h3 := three_new wr (.cells #[.string u, .slice a n cap] 27) (.cells #[.string u, .slice (some ⟨w'.heap.size, 0, none⟩) (n + m) (n + m)] 27) (.cells #[.string v, .slice (some ⟨w'.heap.size, 0, none⟩) (n + m) (n + m)] 27)
              have R1 := (h.keep hbl).keep h3
              have R2 := hall.row.keep h3
              have BL := hbl.trans (h3.mono hsz)
              clear h h' hall hbl h3
              go_wp2_with fail
              refine (call1 u a n cap f w'.heap.size m (n + m) g _ (by omega) R1 R2).mono ?_
              rintro e w2 ⟨rfl, hb2⟩
              obtain ⟨hc2, hf2⟩ := bcell hb2
              have hs2 := hb2.size
              simp only [World.size_alloc] at hs2
              have hs20 : wr.heap.size < w2.heap.size := by omega
              have hs21 : wr.heap.size + 1 < w2.heap.size := by omega
              have hs22 : wr.heap.size + 1 + 1 < w2.heap.size := by omega
              have R3 := R1.keep hb2
              have R4 := R2.keep hb2
              clear R1 R2
              go_wp2_with fail
              refine (call2 u a n cap f w'.heap.size m (n + m) g _ (by omega) R3 R4).mono ?_
              rintro e w3 ⟨rfl, hb3⟩
              obtain ⟨hc3, hf3⟩ := bcell hb3
              have R5 := R3.keep hb3
              have R6 := R4.keep hb3
              clear R3 R4
              go_wp2_with fail
              refine (call3 u v a n cap f w'.heap.size m (n + m) g _ (by omega) R5 R6).mono ?_
              rintro e w4 ⟨rfl, hb4⟩
              have BL2 := BL.trans (hb2.mono (by simp only [World.size_alloc]; omega))
              have BL3 := (BL2.trans (hb3.mono (by omega))).trans (hb4.mono (by have := hb3.size; omega))
              clear R5 R6
              go_wp2_with fail
              go_ret
              exact ⟨rfl, BL3⟩
end Go.Proofs.Qxb6619296a
