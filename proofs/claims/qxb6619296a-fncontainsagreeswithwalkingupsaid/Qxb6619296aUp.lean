import Derived.Test.Qxb6619296aPath
import Derived.WalkSmall
namespace Go.Proofs.Qxb6619296a
open Go.RowKit

theorem bcellU {W w1 : World} (hb : Below W.heap.size W w1) : (∀ b o, b < W.heap.size → w1.cell? ⟨b, o, none⟩ = W.cell? ⟨b, o, none⟩) ∧ (∀ b o, b < W.heap.size → w1.frozen? ⟨b, o, none⟩ = W.frozen? ⟨b, o, none⟩) :=
  ⟨fun b o h => hb.cell (p := ⟨b, o, none⟩) h, fun b o h => hb.frozen (p := ⟨b, o, none⟩) h⟩

/-- Block A holds the two cells of a Path; none is frozen. -/
def Box (w : World) (A : Nat) (x y : Value) : Prop := w.heap[A]? = some (.cells #[x, y] 27 (0, 0))
theorem Box.cell0 {w : World} {A : Nat} {x y : Value} (h : Box w A x y) : w.cell? ⟨A, 0, none⟩ = some x := by
  unfold Box at h; simp [World.cell?, h]
theorem Box.cell1 {w : World} {A : Nat} {x y : Value} (h : Box w A x y) : w.cell? ⟨A, 1, none⟩ = some y := by
  unfold Box at h; simp [World.cell?, h]
theorem Box.frozen {w : World} {A : Nat} {x y : Value} (h : Box w A x y) (i : Nat) : w.frozen? ⟨A, i, none⟩ = false := by
  unfold Box at h; simp [World.frozen?, h]
theorem Box.lt {w : World} {A : Nat} {x y : Value} (h : Box w A x y) : A < w.heap.size := by
  unfold Box at h
  by_cases hlt : A < w.heap.size
  · exact hlt
  · exfalso
    have : w.heap[A]? = none := by simp; omega
    rw [this] at h; cases h
theorem Box.keep {w w' : World} {A : Nat} {x y : Value} (h : Box w A x y) (hb : Below w.heap.size w w') : Box w' A x y := by
  have := h.lt
  unfold Box at *
  rw [hb.block A this]; exact h

theorem Box.new (w : World) (x y : Value) : Box (w.alloc (.cells #[x, y] 27)) w.heap.size x y := by
  unfold Box
  show (w.heap.push _)[w.heap.size]? = _
  simp
theorem Box.set1 {w : World} {A : Nat} {x y : Value} (h : Box w A x y) (z : Value) : Box (w.setCell ⟨A, 1, none⟩ z) A x z := by
  unfold Box at *
  simp [World.setCell, Array.getElem?_modify, h]
theorem Box.set0 {w : World} {A : Nat} {x y : Value} (h : Box w A x y) (z : Value) : Box (w.setCell ⟨A, 0, none⟩ z) A z y := by
  unfold Box at *
  simp [World.setCell, Array.getElem?_modify, h]

theorem parent_step (u : ByteArray) (a : Option Addr) (k c : Nat) (f : Nat → ByteArray) (w : World) (hn : k < 1048576) (hc : k + 1 ≤ c) (h : Row w a (k + 1) f) :
    Calls Try.prog 10 #[.agg #[.string u, .slice a (k + 1) c]] w fun e w' => e = .returned (.agg #[.string u, .slice a k k]) ∧ Below w.heap.size w w' :=
  parent_some u a (k + 1) c f w (by omega) (by omega) hc h

theorem con_eq {pu qu : ByteArray} {n d : Nat} {f g : Nat → ByteArray} (hu : (qu.toList == pu.toList) = true) : conB pu n f qu (n + d) g = eqB n n g f := by
  rw [str_eq] at hu
  simp only [decide_eq_true_eq] at hu
  unfold conB eqB
  rw [Bool.eq_iff_iff]
  simp only [decide_eq_true_eq, true_and]
  exact ⟨fun h => h.2.2, fun h => ⟨hu, by omega, h⟩⟩

set_option maxHeartbeats 800000 in
theorem up_any (pu : ByteArray) (a : Option Addr) (n cap : Nat) (f : Nat → ByteArray) (qu : ByteArray) (a' : Option Addr) (m cap' : Nat) (g : Nat → ByteArray) (w : World) (h : Row w a n f) (h' : Row w a' m g) (hcap : m ≤ cap') :
    Calls Try.prog 5 #[.string pu, .slice a n cap, .string qu, .slice a' m cap'] w fun e w' => e = .returned (.bool true) ∧ Below w.heap.size w w' := by
  go_enter Try.func5, Try.ntmps5
  go_wp2_with fail
  refine (bytes14 _ _ _ _ _ _ _ _ _ _ _ h h').mono ?_
  rintro e w' ⟨⟨x, rfl⟩, rfl⟩
  cases x with
  | false =>
    go_wp2
    go_ret
    exact ⟨rfl, Below.refl _ _⟩
  | true =>
    go_wp2_with fail
    refine (left_any _ _ _ _ _ _ _ (by omega) (by omega) h).mono ?_
    rintro e w ⟨⟨r, rfl, hr1, hr2, hr3⟩, rfl⟩
    go_wp2_with fail
    refine (left_any _ _ _ _ _ _ _ hr1 hr2 h').mono ?_
    rintro e w' ⟨⟨r', rfl, hr1', hr2', hr3'⟩, rfl⟩
    by_cases hr : r' < 0
    · go_wp2
      go_ret
      exact ⟨rfl, Below.refl _ _⟩
    · have hb1 : 16 * (n : Int) ≤ 1048576 := (hr3 (hr3' (by omega)).1).2
      have hb2 : 16 * (m : Int) ≤ 1048576 := by have := (hr3' (by omega)).2; omega
      clear hr3 hr3' hr1 hr2 hr1' hr2'
      have h2 := two_new' w' (.cells #[.string pu, .slice a n cap] 27) (.cells #[.string qu, .slice a' m cap'] 27)
      have R1 := h.keep h2
      have R2 := h'.keep h2
      clear h h'
      go_wp2_with fail
      refine (contains_any pu a n cap f qu a' m cap' g _ (by omega) R1 R2).mono ?_
      rintro e w2 ⟨rfl, hbA⟩
      obtain ⟨hcA, hfA⟩ := bcellU hbA
      have R3 := R1.keep hbA
      have R4 := R2.keep hbA
      have BL := h2.trans (hbA.mono h2.size)
      clear R1 R2 h2
      by_cases hmn : m < n
      · have hG : conB pu n f qu m g = false := conB_short (by omega)
        go_wp2
        go_ret
        exact ⟨rfl, BL⟩
      · obtain ⟨d, rfl⟩ : ∃ d, m = n + d := ⟨m - n, by omega⟩
        go_wp2_with fail
        go_loopw [13] (fun i wr => ∃ t c : Nat, t ≤ d ∧ i = .int .i64 t ∧ Box wr w2.heap.size (.string qu) (.slice a' (n + t) c) ∧ n + t ≤ c ∧ Below w2.heap.size w2 wr) (fun i _ => (intOf i).toNat)
        case atStart => exact ⟨d, cap', Nat.le_refl _, by go_num, Box.new _ _ _, hcap, one_new _ _⟩
        case round =>
          obtain ⟨t, c, ht, rfl, hbox, htc, hbl⟩ := hrel
          clear hcA hfA
          have c0 := hbox.cell0
          have c1 := hbox.cell1
          have fz0 := hbox.frozen 0
          have fz1 := hbox.frozen 1
          by_cases ht0 : 0 < t
          · obtain ⟨k, rfl⟩ : ∃ k, t = k + 1 := ⟨t - 1, by omega⟩
            have R5 := (R4.shorter (m := n + k + 1) (by omega)).keep hbl
            have hlt := hbox.lt
            clear R3 R4
            go_wp2_with fail
            refine (parent_step qu a' (n + k) c g _ (by omega) (by omega) R5).mono ?_
            rintro e w3 ⟨rfl, hbB⟩
            obtain ⟨hcB, hfB⟩ := bcellU hbB
            have box3 := hbox.keep hbB
            go_wp2_with fail
            go_roundw
            case rel => exact ⟨k, n + k, by omega, rfl, (box3.set0 _).set1 _, Nat.le_refl _, ((hbl.trans (hbB.mono hbl.size)).setCell (Nat.le_refl _) _).setCell (Nat.le_refl _) _⟩
            case measure => simp [intOf]
          · have ht1 : t = 0 := by omega
            subst ht1
            rw [Nat.add_zero] at c1
            have R5 := R3.keep hbl
            have R6 := (R4.shorter (m := n) (by omega)).keep hbl
            have BL2 := BL.trans (hbl.mono BL.size)
            clear R3 R4
            by_cases hu : (qu.toList == pu.toList) = true
            · have EC := equal_any a' n c g a n cap f wr (by omega) R6 R5
              rw [← con_eq (n := n) (d := d) (f := f) (g := g) hu] at EC
              go_wp2_with fail
              refine EC.mono ?_
              rintro e w4 ⟨rfl, q4, rfl⟩
              go_wp2_with fail
              go_ret
              exact ⟨rfl, below_drewN BL2 _⟩
            · rw [Bool.not_eq_true] at hu
              have hG : conB pu n f qu (n + d) g = false := conB_user hu
              go_wp2_with fail
              go_ret
              exact ⟨rfl, BL2⟩
end Go.Proofs.Qxb6619296a
