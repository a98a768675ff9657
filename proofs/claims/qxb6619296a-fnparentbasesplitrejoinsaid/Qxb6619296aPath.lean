import Derived.Test.Qxb6619296aMade
import Derived.RegionTactic
namespace Go.Proofs.Qxb6619296a
open Go.RowKit

theorem one_new (w : World) (x : Obj) : Below w.heap.size w (w.alloc x) := (Below.refl _ _).alloc (Nat.le_refl _) _
theorem two_new' (w : World) (x y : Obj) : Below w.heap.size w ((w.alloc x).alloc y) :=
  ((Below.refl _ _).alloc (Nat.le_refl _) _).alloc (by simp) _

theorem three_new' (w : World) (x y z : Obj) : Below w.heap.size w (((w.alloc x).alloc y).alloc z) :=
  (((Below.refl _ _).alloc (Nat.le_refl _) _).alloc (by simp) _).alloc (by simp; omega) _

set_option maxHeartbeats 400000 in
theorem base_some (u : ByteArray) (a : Option Addr) (n cap : Nat) (f : Nat → ByteArray) (w : World) (hn0 : 0 < n) (hn : n ≤ 1048576) (h : Row w a n f) :
    Calls Try.prog 11 #[.agg #[.string u, .slice a n cap]] w fun e w' => e = .returned (.string (f (n - 1))) ∧ Below w.heap.size w w' := by
  obtain ⟨b, off, rfl, hc⟩ := h hn0
  have hck := hc (n - 1) (by omega)
  have hb := cell_lt hck
  have hz : ((n : Int) == 0) = false := by rw [beq_eq_false_iff_ne]; omega
  have hm : ((n : Int) - 1).toNat = n - 1 := by omega
  clear hc h
  go_enter Try.func11, Try.ntmps11
  go_wp2
  go_ret
  exact ⟨rfl, two_new' _ _ _⟩

set_option maxHeartbeats 400000 in
theorem base_none (u : ByteArray) (a : Option Addr) (cap : Nat) (w : World) :
    Calls Try.prog 11 #[.agg #[.string u, .slice a 0 cap]] w fun e w' => e = .returned (.string ByteArray.empty) ∧ Below w.heap.size w w' := by
  go_enter Try.func11, Try.ntmps11
  go_wp2
  go_ret
  exact ⟨rfl, two_new' _ _ _⟩

set_option maxHeartbeats 400000 in
theorem parent_none (u : ByteArray) (a : Option Addr) (cap : Nat) (w : World) :
    Calls Try.prog 10 #[.agg #[.string u, .slice a 0 cap]] w fun e w' => e = .returned (.agg #[.string u, .slice a 0 cap]) ∧ Below w.heap.size w w' := by
  go_enter Try.func10, Try.ntmps10
  go_wp2
  exact bodyPost_ret (v := .agg #[.string u, .slice a 0 cap]) (by simp [results, Try.results10, go_sem]) rfl ⟨rfl, three_new' _ _ _ _⟩

set_option maxHeartbeats 400000 in
theorem parent_some (u : ByteArray) (a : Option Addr) (n cap : Nat) (f : Nat → ByteArray) (w : World) (hn0 : 0 < n) (hn : n ≤ 1048576) (hcap : n ≤ cap) (h : Row w a n f) :
    Calls Try.prog 10 #[.agg #[.string u, .slice a n cap]] w fun e w' => e = .returned (.agg #[.string u, .slice a (n - 1) (n - 1)]) ∧ Below w.heap.size w w' := by
  obtain ⟨b, off, rfl, hc⟩ := h hn0
  have hck := hc (n - 1) (by omega)
  have hb := cell_lt hck
  have hz : ((n : Int) == 0) = false := by rw [beq_eq_false_iff_ne]; omega
  go_enter Try.func10, Try.ntmps10
  go_wp2
  go_region
  go_wp2
  exact bodyPost_ret (v := .agg #[.string u, .slice (some ⟨b, off, none⟩) (n - 1) (n - 1)]) (by simp [results, Try.results10, go_sem]) rfl ⟨rfl, (three_new' _ _ _ _).drew⟩

theorem Row.shorter {w : World} {a : Option Addr} {n : Nat} {f : Nat → ByteArray} (h : Row w a n f) {m : Nat} (hm : m ≤ n) : Row w a m f := by
  intro h0
  obtain ⟨b, off, ha, hc⟩ := h (by omega)
  exact ⟨b, off, ha, fun i hi => hc i (by omega)⟩

end Go.Proofs.Qxb6619296a
