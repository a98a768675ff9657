/- The proof of 'Rows.FnLinksAddCountsEveryCallSaid': the frame is the guide's own (its shell for a law over slices, turned to slices of strings, int64s and bools); the walk is main_any. -/
import Derived.Test.Qxb6619286aRows
import Derived.Test.Qxb6619286aMain
import Derived.WalkKit
import Derived.ProofKit
import Derived.OpenShut
import Derived.ShutString
import Derived.ChangeOld
import Derived.Below
import Derived.SliceStrings
import Derived.Deep.Grids
namespace Go.Proofs.Qxb6619286a
open Go.RowKit

theorem main_any (a0 a1 a2 a3 a4 a5 a6 : Option Addr) (n0 c0 n1 c1 n2 c2 n3 c3 n4 c4 n5 c5 n6 c6 : Nat) (f0 f1 : Nat → ByteArray) (z2 z3 : Nat → Int) (f4 f5 : Nat → ByteArray) (b6 : Nat → Bool) (w : World) (h0 : Row w a0 n0 (SV f0)) (h1 : Row w a1 n1 (SV f1)) (h2 : Row w a2 n2 (IV z2)) (h3 : Row w a3 n3 (IV z3)) (h4 : Row w a4 n4 (SV f4)) (h5 : Row w a5 n5 (SV f5)) (h6 : Row w a6 n6 (BV b6)) (k0 : ∀ i, i < n0 → i < n1 → OkKey (f0 i, f1 i)) (k4 : ∀ i, i < n4 → i < n5 → OkKey (f4 i, f5 i)) :
    Calls Try.prog 3 #[.slice a0 n0 c0, .slice a1 n1 c1, .slice a2 n2 c2, .slice a3 n3 c3, .slice a4 n4 c4, .slice a5 n5 c5, .slice a6 n6 c6] w fun e w' => e = .returned (.bool true) ∧ Below w.heap.size w w' := by
  by_cases g : n0 ≤ 4096 ∧ n1 ≤ 4096 ∧ n2 ≤ 4096 ∧ n3 ≤ 4096
  · obtain ⟨g0, g1, g2, g3⟩ := g
    by_cases g' : n4 ≤ 4096 ∧ n5 ≤ 4096 ∧ n6 ≤ 4096
    · obtain ⟨g4, g5, g6⟩ := g'
      exact main_short a0 a1 a2 a3 a4 a5 a6 n0 c0 n1 c1 n2 c2 n3 c3 n4 c4 n5 c5 n6 c6 f0 f1 z2 z3 f4 f5 b6 w h0 h1 h2 h3 h4 h5 h6 k0 k4 g0 g1 g2 g3 g4 g5 g6
    · exact main_long2 a0 a1 a2 a3 a4 a5 a6 n0 c0 n1 c1 n2 c2 n3 c3 n4 c4 n5 c5 n6 c6 f0 f1 z2 z3 f4 f5 b6 w h0 h1 h2 h3 h4 h5 h6 g0 g1 g2 g3 g'
  · exact main_long a0 a1 a2 a3 a4 a5 a6 n0 c0 n1 c1 n2 c2 n3 c3 n4 c4 n5 c5 n6 c6 f0 f1 z2 z3 f4 f5 b6 w h0 h1 h2 h3 h4 h5 h6 g

/-- From an opened argument's cells. -/
theorem Row.of_cells {w : World} {x : Addr} {n m : Nat} {V : Nat → Value} (hn : n ≤ m) (hc : ∀ i, i < m → w.cell? (x.add i) = some (V i)) : Row w (some x) n V := by
  intro h
  obtain ⟨b, off, spot⟩ := x
  have hspot : spot = none := by simpa [Addr.add] using World.cell?_spot (hc 0 (by omega))
  subst hspot
  refine ⟨b, off, rfl, fun i hi => ?_⟩
  have e : (⟨b, off, none⟩ : Addr).add i = ⟨b, off + i, none⟩ := by
    by_cases h0 : i = 0
    · subst h0; simp [Addr.add]
    · simp [Addr.add, h0]
  rw [← e]
  exact hc i (by omega)
theorem size_of {zs : List ByteArray} (h : ∀ s ∈ zs, s.size ≤ maxLen) {i : Nat} (hi : i < zs.length) : (zs.getD i ByteArray.empty).size ≤ maxLen := by
  rw [List.getD_eq_getElem?_getD, List.getElem?_eq_getElem hi]
  exact h _ (List.getElem_mem hi)
end Go.Proofs.Qxb6619286a
namespace Go.Proofs.Qxb6619286a.fnLinksAddCountsEveryCall
open Go.ChangeShapes Go.WideShapes Go.ChangeAt Go.RowKit
set_option linter.unusedVariables false

theorem own : ownKnob Try.prog.godebug = none := by kernel_rfl

set_option maxRecDepth 100000 in
theorem lifted (os : Os) (started : os.Started) (H : Type) (enc : TypeId × Value → H) :
    ReturnsInHanded {} Try.checked os 3 .any (Rows.fnLinksAddCountsEveryCallSpec.pre6 enc Try.prog Try.f3 Rows.fnLinksAddCountsEveryCallRow.domain false) (Rows.fnLinksAddCountsEveryCallSpec.post enc Try.prog Try.f3 false true false false) := by
  refine returnsInHanded_of_change (C := Try.checked) own started (by kernel_rfl) Try.func3
    (ChangeSpec.witness6 (enc := enc) (C := Try.checked) false ⟨#[], #[.slice none 0 0, .slice none 0 0, .slice none 0 0, .slice none 0 0, .slice none 0 0, .slice none 0 0, .slice none 0 0], []⟩ 8 (by kernel_rfl) (by kernel_rfl) (by kernel_rfl) (by kernel_rfl)) ?_
  intro W base args ds gs before hval0 hW hcnd _
  have hval : ∀ (j : Nat) t v, Try.f3.params[j]? = some t → args[j]? = some v → Value.okWide Try.prog W .any base t v := hval0
  have hW' := hW
  obtain ⟨p, q, hA0, hV, rfl, hfz, hnd⟩ := hW
  have hA : DataW.TrodAll enc Try.prog W 0 (fun _ => true) true Try.f3.params.toList args.toList ds p := hA0
  rw [Try.params3] at hA hval
  obtain ⟨v0, vs0, d0, ds0, p0, q0, hargs, rfl, rfl, h0, r0⟩ := trodAll_cons hA
  obtain ⟨v1, vs1, d1, ds1, p1, q1, rfl, rfl, rfl, h1, r1⟩ := trodAll_cons r0
  obtain ⟨v2, vs2, d2, ds2, p2, q2, rfl, rfl, rfl, h2, r2⟩ := trodAll_cons r1
  obtain ⟨v3, vs3, d3, ds3, p3, q3, rfl, rfl, rfl, h3, r3⟩ := trodAll_cons r2
  obtain ⟨v4, vs4, d4, ds4, p4, q4, rfl, rfl, rfl, h4, r4⟩ := trodAll_cons r3
  obtain ⟨v5, vs5, d5, ds5, p5, q5, rfl, rfl, rfl, h5, r5⟩ := trodAll_cons r4
  obtain ⟨v6, vs6, d6, ds6, p6, q6, rfl, rfl, rfl, h6, r6⟩ := trodAll_cons r5
  obtain ⟨rfl, rfl, rfl⟩ := trodAll_nil r6
  obtain rfl : args = #[v0, v1, v2, v3, v4, v5, v6] := by cases args; simp_all
  obtain ⟨rfl, rfl⟩ := trodVars_none hV
  obtain ⟨a0, len0, cap0, rfl⟩ := okWide_slice Try.underlying22 (hval 0 22 v0 rfl rfl)
  have k0 := h0
  have lt0 : ∀ x ∈ p0, x.block < W.heap.size := by obtain ⟨m, hm⟩ := k0; exact DataW.trod_lt m _ _ _ hm
  obtain ⟨z0, w0, s0⟩ : ∃ f, Row W a0 len0 (SV f) ∧ ∀ j, j < len0 → (f j).size ≤ maxLen := by
    obtain ⟨fuel, hf⟩ := h0
    rcases open_strings Try.underlying22 Try.underlying9 (by kernel_rfl) hf with ⟨hcs, _⟩ | ⟨x, l, c, zs, hcs, _, hl, hm, hz, _, hcell, hwz⟩
    · simp [Value.cells] at hcs
      obtain ⟨rfl, rfl, rfl⟩ := hcs
      exact ⟨fun _ => ByteArray.empty, fun h => absurd h (Nat.lt_irrefl _), fun j hj => absurd hj (Nat.not_lt_zero _)⟩
    · simp [Value.cells] at hcs
      obtain ⟨rfl, rfl, rfl⟩ := hcs
      have hzl : len0 ≤ zs.length := by simp at hz; omega
      exact ⟨fun j => zs.getD j ByteArray.empty, Row.of_cells hzl hcell, fun j hj => size_of hwz (by omega)⟩
  obtain ⟨a1, len1, cap1, rfl⟩ := okWide_slice Try.underlying22 (hval 1 22 v1 rfl rfl)
  have k1 := h1
  have lt1 : ∀ x ∈ p1, x.block < W.heap.size := by obtain ⟨m, hm⟩ := k1; exact DataW.trod_lt m _ _ _ hm
  obtain ⟨z1, w1, s1⟩ : ∃ f, Row W a1 len1 (SV f) ∧ ∀ j, j < len1 → (f j).size ≤ maxLen := by
    obtain ⟨fuel, hf⟩ := h1
    rcases open_strings Try.underlying22 Try.underlying9 (by kernel_rfl) hf with ⟨hcs, _⟩ | ⟨x, l, c, zs, hcs, _, hl, hm, hz, _, hcell, hwz⟩
    · simp [Value.cells] at hcs
      obtain ⟨rfl, rfl, rfl⟩ := hcs
      exact ⟨fun _ => ByteArray.empty, fun h => absurd h (Nat.lt_irrefl _), fun j hj => absurd hj (Nat.not_lt_zero _)⟩
    · simp [Value.cells] at hcs
      obtain ⟨rfl, rfl, rfl⟩ := hcs
      have hzl : len1 ≤ zs.length := by simp at hz; omega
      exact ⟨fun j => zs.getD j ByteArray.empty, Row.of_cells hzl hcell, fun j hj => size_of hwz (by omega)⟩
  obtain ⟨a2, len2, cap2, rfl⟩ := okWide_slice Try.underlying23 (hval 2 23 v2 rfl rfl)
  have k2 := h2
  have lt2 : ∀ x ∈ p2, x.block < W.heap.size := by obtain ⟨m, hm⟩ := k2; exact DataW.trod_lt m _ _ _ hm
  obtain ⟨z2, w2⟩ : ∃ f, Row W a2 len2 (IV f) := by
    obtain ⟨fuel, hf⟩ := h2
    rcases open_ints Try.underlying23 Try.underlying2 (by kernel_rfl) hf with ⟨hcs, _⟩ | ⟨x, l, c, zs, hcs, _, hl, hm, hz, _, hcell, hwz⟩
    · simp [Value.cells] at hcs
      obtain ⟨rfl, rfl, rfl⟩ := hcs
      exact ⟨fun _ => 0, fun h => absurd h (Nat.lt_irrefl _)⟩
    · simp [Value.cells] at hcs
      obtain ⟨rfl, rfl, rfl⟩ := hcs
      have hzl : len2 ≤ zs.length := by simp at hz; omega
      exact ⟨fun j => zs.getD j 0, Row.of_cells hzl hcell⟩
  obtain ⟨a3, len3, cap3, rfl⟩ := okWide_slice Try.underlying23 (hval 3 23 v3 rfl rfl)
  have k3 := h3
  have lt3 : ∀ x ∈ p3, x.block < W.heap.size := by obtain ⟨m, hm⟩ := k3; exact DataW.trod_lt m _ _ _ hm
  obtain ⟨z3, w3⟩ : ∃ f, Row W a3 len3 (IV f) := by
    obtain ⟨fuel, hf⟩ := h3
    rcases open_ints Try.underlying23 Try.underlying2 (by kernel_rfl) hf with ⟨hcs, _⟩ | ⟨x, l, c, zs, hcs, _, hl, hm, hz, _, hcell, hwz⟩
    · simp [Value.cells] at hcs
      obtain ⟨rfl, rfl, rfl⟩ := hcs
      exact ⟨fun _ => 0, fun h => absurd h (Nat.lt_irrefl _)⟩
    · simp [Value.cells] at hcs
      obtain ⟨rfl, rfl, rfl⟩ := hcs
      have hzl : len3 ≤ zs.length := by simp at hz; omega
      exact ⟨fun j => zs.getD j 0, Row.of_cells hzl hcell⟩
  obtain ⟨a4, len4, cap4, rfl⟩ := okWide_slice Try.underlying22 (hval 4 22 v4 rfl rfl)
  have k4 := h4
  have lt4 : ∀ x ∈ p4, x.block < W.heap.size := by obtain ⟨m, hm⟩ := k4; exact DataW.trod_lt m _ _ _ hm
  obtain ⟨z4, w4, s4⟩ : ∃ f, Row W a4 len4 (SV f) ∧ ∀ j, j < len4 → (f j).size ≤ maxLen := by
    obtain ⟨fuel, hf⟩ := h4
    rcases open_strings Try.underlying22 Try.underlying9 (by kernel_rfl) hf with ⟨hcs, _⟩ | ⟨x, l, c, zs, hcs, _, hl, hm, hz, _, hcell, hwz⟩
    · simp [Value.cells] at hcs
      obtain ⟨rfl, rfl, rfl⟩ := hcs
      exact ⟨fun _ => ByteArray.empty, fun h => absurd h (Nat.lt_irrefl _), fun j hj => absurd hj (Nat.not_lt_zero _)⟩
    · simp [Value.cells] at hcs
      obtain ⟨rfl, rfl, rfl⟩ := hcs
      have hzl : len4 ≤ zs.length := by simp at hz; omega
      exact ⟨fun j => zs.getD j ByteArray.empty, Row.of_cells hzl hcell, fun j hj => size_of hwz (by omega)⟩
  obtain ⟨a5, len5, cap5, rfl⟩ := okWide_slice Try.underlying22 (hval 5 22 v5 rfl rfl)
  have k5 := h5
  have lt5 : ∀ x ∈ p5, x.block < W.heap.size := by obtain ⟨m, hm⟩ := k5; exact DataW.trod_lt m _ _ _ hm
  obtain ⟨z5, w5, s5⟩ : ∃ f, Row W a5 len5 (SV f) ∧ ∀ j, j < len5 → (f j).size ≤ maxLen := by
    obtain ⟨fuel, hf⟩ := h5
    rcases open_strings Try.underlying22 Try.underlying9 (by kernel_rfl) hf with ⟨hcs, _⟩ | ⟨x, l, c, zs, hcs, _, hl, hm, hz, _, hcell, hwz⟩
    · simp [Value.cells] at hcs
      obtain ⟨rfl, rfl, rfl⟩ := hcs
      exact ⟨fun _ => ByteArray.empty, fun h => absurd h (Nat.lt_irrefl _), fun j hj => absurd hj (Nat.not_lt_zero _)⟩
    · simp [Value.cells] at hcs
      obtain ⟨rfl, rfl, rfl⟩ := hcs
      have hzl : len5 ≤ zs.length := by simp at hz; omega
      exact ⟨fun j => zs.getD j ByteArray.empty, Row.of_cells hzl hcell, fun j hj => size_of hwz (by omega)⟩
  obtain ⟨a6, len6, cap6, rfl⟩ := okWide_slice Try.underlying24 (hval 6 24 v6 rfl rfl)
  have k6 := h6
  have lt6 : ∀ x ∈ p6, x.block < W.heap.size := by obtain ⟨m, hm⟩ := k6; exact DataW.trod_lt m _ _ _ hm
  obtain ⟨z6, w6⟩ : ∃ f, Row W a6 len6 (BV f) := by
    obtain ⟨fuel, hf⟩ := h6
    rcases Go.Deep.open_bools Try.underlying24 Try.underlying4 (by kernel_rfl) hf with ⟨hcs, _⟩ | ⟨x, l, c, B, hcs, hb, hl, hm, hx, hcell⟩
    · simp [Value.cells] at hcs
      obtain ⟨rfl, rfl, rfl⟩ := hcs
      exact ⟨fun _ => false, fun h => absurd h (Nat.lt_irrefl _)⟩
    · simp [Value.cells] at hcs
      obtain ⟨rfl, rfl, rfl⟩ := hcs
      exact ⟨B, Row.of_cells hl hcell⟩
  clear hA0 hval0
  refine (main_any a0 a1 a2 a3 a4 a5 a6 len0 cap0 len1 cap1 len2 cap2 len3 cap3 len4 cap4 len5 cap5 len6 cap6 z0 z1 z2 z3 z4 z5 z6 W w0 w1 w2 w3 w4 w5 w6 (fun i h1 h2 => ⟨s0 i h1, s1 i h2⟩) (fun i h1 h2 => ⟨s4 i h1, s5 i h2⟩)).mono fun e W' ⟨he, bel⟩ => ?_
  subst he
  exact ⟨_, rfl, _, _, _, [], _, [], hW', trodAll_mk1 (shut_bool Try.underlying4 _), (trodAll_cons_mk (Below.trod laidOut (by kernel_rfl) (of_decide_eq_true (by kernel_rfl)) k0 bel lt0) (trodAll_cons_mk (Below.trod laidOut (by kernel_rfl) (of_decide_eq_true (by kernel_rfl)) k1 bel lt1) (trodAll_cons_mk (Below.trod laidOut (by kernel_rfl) (of_decide_eq_true (by kernel_rfl)) k2 bel lt2) (trodAll_cons_mk (Below.trod laidOut (by kernel_rfl) (of_decide_eq_true (by kernel_rfl)) k3 bel lt3) (trodAll_cons_mk (Below.trod laidOut (by kernel_rfl) (of_decide_eq_true (by kernel_rfl)) k4 bel lt4) (trodAll_cons_mk (Below.trod laidOut (by kernel_rfl) (of_decide_eq_true (by kernel_rfl)) k5 bel lt5) (trodAll_cons_mk (Below.trod laidOut (by kernel_rfl) (of_decide_eq_true (by kernel_rfl)) k6 bel lt6) trodAll_mk0))))))), rfl, bel.frame _, fun h => by cases h⟩

theorem over : Rows.fnLinksAddCountsEveryCallRow.holds Try.pinned (OpenSpec.ofChange Rows.fnLinksAddCountsEveryCallSpec) :=
  OpenClaim.holds_of_wide 3 Try.f3 rfl rfl rfl rfl rfl rfl rfl ⟨rfl, rfl, rfl, rfl, rfl⟩ rfl rfl rfl rfl rfl (by kernel_rfl) Try.func3 (by kernel_rfl)
    (of_decide_eq_true (by kernel_rfl)) (by unfold Func.isWrapper; first | (rw [if_pos (by decide +kernel)]; kernel_rfl) | (rw [if_neg (by decide +kernel)]; exact ⟨rfl, rfl⟩))
    (fun os started H enc _ => lifted os started H enc)

theorem proved : Rows.FnLinksAddCountsEveryCallSaid := over
#print axioms proved
end Go.Proofs.Qxb6619286a.fnLinksAddCountsEveryCall
namespace Go.Proofs.Qxb6619286a
theorem fnLinksAddCountsEveryCall_proved : Rows.FnLinksAddCountsEveryCallSaid := fnLinksAddCountsEveryCall.proved
end Go.Proofs.Qxb6619286a
