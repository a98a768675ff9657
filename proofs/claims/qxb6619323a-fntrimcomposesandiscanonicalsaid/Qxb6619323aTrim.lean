import Derived.Test.Qxb6619323aFns
namespace Go.Proofs.Qxb6619323a
open Go.RowKit
open Plain (trim tU tP ten)

/-- Block A holds the two cells of a Price; none is frozen. -/
def Box (w : World) (A : Nat) (x y : Value) : Prop := w.heap[A]? = some (.cells #[x, y] 23 (0, 0))
theorem Box.cell0 {w : World} {A : Nat} {x y : Value} (h : Box w A x y) : w.cell? ⟨A, 0, none⟩ = some x := by
  unfold Box at h; simp [World.cell?, h]
theorem Box.cell1 {w : World} {A : Nat} {x y : Value} (h : Box w A x y) : w.cell? ⟨A, 1, none⟩ = some y := by
  unfold Box at h; simp [World.cell?, h]
theorem Box.frozen {w : World} {A : Nat} {x y : Value} (h : Box w A x y) (i : Nat) : w.frozen? ⟨A, i, none⟩ = false := by
  unfold Box at h; simp [World.frozen?, h]
theorem Box.set1 {w : World} {A : Nat} {x y : Value} (h : Box w A x y) (z : Value) : Box (w.setCell ⟨A, 1, none⟩ z) A x z := by
  unfold Box at *
  simp [World.setCell, Array.getElem?_modify, h]
theorem Box.set0 {w : World} {A : Nat} {x y : Value} (h : Box w A x y) (z : Value) : Box (w.setCell ⟨A, 0, none⟩ z) A z y := by
  unfold Box at *
  simp [World.setCell, Array.getElem?_modify, h]
theorem Box.other {w : World} {A B : Nat} {x y : Value} (h : Box w A x y) (hB : A ≠ B) (o : Nat) (z : Value) : Box (w.setCell ⟨B, o, none⟩ z) A x y := by
  unfold Box at *
  rw [Below.heap_setCell _ _ _ _ hB]; exact h

/-- The block of p and the block of the result, behind the call's first two steps. -/
theorem box_p (w : World) (x y : Value) (o : Obj) : Box ((w.alloc (.cells #[x, y] 23)).alloc o) w.heap.size x y := by
  unfold Box
  show (((w.heap.push _)).push o)[w.heap.size]? = _
  rw [Array.getElem?_push, if_neg (by simp)]
  simp
theorem box_r (w : World) (x y : Value) (o : Obj) : Box ((w.alloc o).alloc (.cells #[x, y] 23)) (w.heap.size + 1) x y := by
  unfold Box
  show (((w.heap.push o)).push _)[w.heap.size + 1]? = _
  rw [Array.getElem?_push, if_pos (by simp)]
theorem two_new (w : World) (x y : Obj) : Below w.heap.size w ((w.alloc x).alloc y) :=
  ((Below.refl _ _).alloc (Nat.le_refl _) _).alloc (by simp) _

theorem tmod_yes {r : Int} (h : r % 10 = 0) : (r.tmod 10 == 0) = true := by
  rw [beq_iff_eq]; exact Int.tmod_eq_zero_of_dvd (by omega)
theorem tmod_no {r : Int} (h : ¬ r % 10 = 0) : (r.tmod 10 == 0) = false := by
  rw [beq_eq_false_iff_ne]
  intro h2
  apply h
  have := Int.dvd_of_tmod_eq_zero h2
  omega
theorem tdiv_ten {r : Int} (h : r % 10 = 0) : r.tdiv 10 = r / 10 := Int.tdiv_eq_ediv_of_dvd (by omega)

theorem ret_price {v q u p m : Int} (h : (v, q) = trim (p - m).toNat u p) : Ending.returned (.agg #[.int .i64 v, .int .i32 q]) = .returned (.agg #[.int .i64 (tU u p m), .int .i32 (tP u p m)]) := by
  unfold tU tP; rw [← h]
theorem bcell {W w1 : World} (hb : Below W.heap.size W w1) : (∀ b o, b < W.heap.size → w1.cell? ⟨b, o, none⟩ = W.cell? ⟨b, o, none⟩) ∧ (∀ b o, b < W.heap.size → w1.frozen? ⟨b, o, none⟩ = W.frozen? ⟨b, o, none⟩) :=
  ⟨fun b o h => hb.cell (p := ⟨b, o, none⟩) h, fun b o h => hb.frozen (p := ⟨b, o, none⟩) h⟩

set_option maxHeartbeats 800000 in
theorem trim_any (u p m : Int) (w : World) (b1 : -9223372036854775808 ≤ u) (b2 : u ≤ 9223372036854775807) (b3 : -2147483648 ≤ p) (b4 : p ≤ 2147483647) (b5 : -2147483648 ≤ m) :
    Calls Try.prog 9 #[.agg #[.int .i64 u, .int .i32 p], .int .i32 m] w fun e w' => e = .returned (.agg #[.int .i64 (tU u p m), .int .i32 (tP u p m)]) ∧ Below w.heap.size w w' := by
  go_enter Try.func9, Try.ntmps9
  go_wp2
  go_loopg [5] (p - m).toNat (fun k _ wr => ∃ (v q : Int), Box wr w.heap.size (.int .i64 v) (.int .i32 q) ∧ Box wr (w.heap.size + 1) (.int .i64 0) (.int .i32 0) ∧ Below w.heap.size w wr ∧ w.heap.size + 1 < wr.heap.size ∧
      -9223372036854775808 ≤ v ∧ v ≤ 9223372036854775807 ∧ -2147483648 ≤ q ∧ q ≤ 2147483647 ∧ k = (q - m).toNat ∧ trim k v q = trim (p - m).toNat u p)
  case atStart => exact ⟨u, p, box_p _ _ _ _, box_r _ _ _ _, two_new _ _ _, by simp, b1, b2, b3, b4, rfl, rfl⟩
  case round =>
    obtain ⟨v, q, bp, br, hbl, hsz, v1, v2, q1, q2, hk, ht⟩ := hrel
    have HT : Hid (trim gk v q = trim (p - m).toNat u p) := ht
    have HK : Hid (gk = (q - m).toNat) := hk
    clear ht hk
    have c0 := bp.cell0
    have c1 := bp.cell1
    have f0 := bp.frozen 0
    have f1 := bp.frozen 1
    by_cases hq : m < q
    · by_cases hv : v % 10 = 0
      · have e1 := tmod_yes hv
        have e2 := tdiv_ten hv
        have e3 : -9223372036854775808 ≤ v / 10 := by omega
        have e4 : v / 10 ≤ 9223372036854775807 := by omega
        have HV : Hid (v % 10 = 0) := hv
        clear hv
        go_wp2
        go_roundg (q - 1 - m).toNat
        case measure => rw [HK.out]; omega
        case rel =>
          refine ⟨v / 10, q - 1, (bp.set0 _).set1 _, (br.other (by omega) _ _).other (by omega) _ _, (hbl.setCell (Nat.le_refl _) _).setCell (Nat.le_refl _) _, by simp [World.setCell]; omega, e3, e4, by omega, by omega, rfl, ?_⟩
          rw [← HT.out, HK.out, show (q - m).toNat = (q - 1 - m).toNat + 1 by omega, Plain.trim_step HV.out]
      · have e1 := tmod_no hv
        have HR : Hid ((v, q) = trim (p - m).toNat u p) := by
          show _ = _
          rw [← HT.out, Plain.trim_stop hv]
        have g0 := br.cell0
        have g1 := br.cell1
        have k0 := br.frozen 0
        have k1 := br.frozen 1
        clear hv
        go_wp2
        exact bodyPost_ret (v := .agg #[.int .i64 v, .int .i32 q]) (by simp [results, Try.results9, go_sem, g0, g1]) rfl ⟨ret_price HR.out, (hbl.setCell (by show w.heap.size ≤ w.heap.size + 1; omega) _).setCell (by show w.heap.size ≤ w.heap.size + 1; omega) _⟩
    · have HR : Hid ((v, q) = trim (p - m).toNat u p) := by
        show _ = _
        rw [← HT.out, HK.out, show (q - m).toNat = 0 by omega]; rfl
      have g0 := br.cell0
      have g1 := br.cell1
      have k0 := br.frozen 0
      have k1 := br.frozen 1
      go_wp2
      exact bodyPost_ret (v := .agg #[.int .i64 v, .int .i32 q]) (by simp [results, Try.results9, go_sem, g0, g1]) rfl ⟨ret_price HR.out, (hbl.setCell (by show w.heap.size ≤ w.heap.size + 1; omega) _).setCell (by show w.heap.size ≤ w.heap.size + 1; omega) _⟩

set_option maxHeartbeats 800000 in
theorem zz_any (u p m : Int) (w : World) (b1 : -9223372036854775808 ≤ u) (b2 : u ≤ 9223372036854775807) (b3 : -2147483648 ≤ p) (b4 : p ≤ 2147483647) (b5 : -2147483648 ≤ m) :
    Calls Try.prog 5 #[.agg #[.int .i64 u, .int .i32 p], .int .i32 m] w fun e w' => e = .returned (.agg #[.int .i64 (tU u p m), .int .i32 (tP u p m)]) ∧ Below w.heap.size w w' := by
  go_enter Try.func5, Try.ntmps5
  go_wp2_with fail
  refine (trim_any u p m _ b1 b2 b3 b4 b5).mono ?_
  rintro e w1 ⟨rfl, hb⟩
  obtain ⟨hc, hf⟩ := bcell hb
  have hs : w.heap.size + 1 < w1.heap.size := by have := hb.size; simp at this; omega
  have h2 := two_new w (.cells #[.int .i64 u, .int .i32 p] 23) (.cells #[.int .i64 0, .int .i32 0] 23)
  go_wp2_with fail
  exact bodyPost_ret (v := .agg #[.int .i64 (tU u p m), .int .i32 (tP u p m)]) (by simp [results, Try.results5, go_sem, hc]) rfl ⟨rfl, ((h2.trans (hb.mono h2.size)).setCell (by show w.heap.size ≤ w.heap.size + 1; omega) _).setCell (by show w.heap.size ≤ w.heap.size + 1; omega) _⟩
end Go.Proofs.Qxb6619323a
