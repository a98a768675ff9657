import Derived.Test.Qxb6619296aClone
import Derived.WalkSmall
import Derived.Deep.RegionHeld3
import Derived.Deep.RegionLawGrows
import Derived.Deep.AppendLies
namespace Go.Proofs.Qxb6619296a
open Go.RowKit

theorem bcellS {W w1 : World} (hb : Below W.heap.size W w1) : (∀ b o, b < W.heap.size → w1.cell? ⟨b, o, none⟩ = W.cell? ⟨b, o, none⟩) ∧ (∀ b o, b < W.heap.size → w1.frozen? ⟨b, o, none⟩ = W.frozen? ⟨b, o, none⟩) :=
  ⟨fun b o h => hb.cell (p := ⟨b, o, none⟩) h, fun b o h => hb.frozen (p := ⟨b, o, none⟩) h⟩

theorem eq_self (a a' : Option Addr) (n c c' : Nat) (f : Nat → ByteArray) (w : World) (hn : n ≤ 1048576) (h : Row w a n f) (h' : Row w a' n f) :
    Calls Try.prog 12 #[.slice a n c, .slice a' n c'] w fun e w' => e = .returned (.bool true) ∧ ∃ q, w' = w.drewN q := by
  have C := equal_any a n c f a' n c' f w hn h h'
  rw [eqB_yes fun _ _ => rfl] at C
  exact C

def slash : ByteArray := ⟨#[47]⟩
/-- The cells of the first k strings. -/
def olds (f : Nat → ByteArray) (k : Nat) : List Value := (List.range k).map fun i => .string (f i)
theorem olds_length (f : Nat → ByteArray) (k : Nat) : (olds f k).length = k := by simp [olds]
theorem olds_get {f : Nat → ByteArray} {k j : Nat} {v : Value} (h : (olds f k)[j]? = some v) : j < k ∧ v = .string (f j) := by
  have hj : j < k := by
    have := (List.getElem?_eq_some_iff.1 h).1
    rwa [olds_length] at this
  refine ⟨hj, ?_⟩
  simp [olds, hj] at h
  exact h.symm
theorem add_at (b off j : Nat) : (⟨b, off, none⟩ : Addr).add j = ⟨b, off + j, none⟩ := by
  by_cases h0 : j = 0
  · subst h0; simp [Addr.add]
  · simp [Addr.add, h0]

theorem hold {W w' : World} {be offe k : Nat} {f : Nat → ByteArray} (HC : ∀ i, i < k + 1 → W.cell? ⟨be, offe + i, none⟩ = some (.string (f i))) (hb : Below W.heap.size W w') :
    ∀ b, some (⟨be, offe, none⟩ : Addr) = some b → ∀ j u, (olds f k)[j]? = some u → w'.cell? (b.add j) = some u := by
  intro b hbb j u hj
  injection hbb with hbb
  subst hbb
  obtain ⟨hjk, rfl⟩ := olds_get hj
  rw [add_at, ← HC j (by omega)]
  exact hb.cell (cell_lt (HC j (by omega)))
theorem new_cell (W : World) (v : Value) : ∀ j u, [v][j]? = some u → (W.alloc (.cells #[v] 9)).drew.cell? ((⟨W.heap.size, 0, none⟩ : Addr).add j) = some u := by
  intro j u hj
  match j, hj with
  | 0, hj => simp at hj; subst hj; simp [Addr.add]
theorem one_str (s : ByteArray) : ∀ u ∈ [Value.string s], u.oneCell' = true := by
  intro u hu; simp at hu; subst hu; rfl
theorem form {w : World} {B n : Nat} {v : Value} {xs : List Value} (hn : 0 < n) (h : w.ownsRow B 9 1 v n xs) : ∃ g cap, v = .slice (some ⟨g, 0, none⟩) n cap := by
  obtain ⟨_, ⟨_, h2⟩ | ⟨g, cap, cur, hv, _⟩⟩ := h
  · omega
  · exact ⟨g, cap, hv⟩

theorem grew (W w' : World) (o : Obj) (h : (W.alloc o).drew.grownBy w' none) : Below W.heap.size W w' :=
  (((Below.refl _ _).alloc (Nat.le_refl _) o).drew).grown h (by show W.heap.size ≤ (W.alloc o).heap.size; simp) (fun k hk => by cases hk)
theorem kept {W w' : World} (h : Below W.heap.size W w') {b o : Nat} {v : Value} (hc : W.cell? ⟨b, o, none⟩ = some v) : w'.cell? ⟨b, o, none⟩ = some v :=
  (h.cell (p := ⟨b, o, none⟩) (cell_lt hc)).trans hc

theorem own_last {w : World} {B g k cap : Nat} {f : Nat → ByteArray} {s : ByteArray} (h : w.ownsRow B 9 1 (.slice (some ⟨g, 0, none⟩) (k + 1) cap) (k + 1) (olds f k ++ [.string s])) : w.cell? ⟨g, k, none⟩ = some (.string s) := by
  rw [h.cellAt k (by omega), List.getElem?_append_right (by rw [olds_length]; omega), olds_length]
  simp
theorem longer (s : ByteArray) : ((s ++ ⟨#[47]⟩).toList == s.toList) = false := by
  rw [beq_eq_false_iff_ne]
  intro h
  have := congrArg List.length h
  simp [ByteArray.toList_eq] at this

set_option maxHeartbeats 800000 in
theorem split_any (u : ByteArray) (a : Option Addr) (n cap : Nat) (f : Nat → ByteArray) (w : World) (h : Row w a n f) (hnil : a = none → n = 0 ∧ cap = 0) :
    Calls Try.prog 3 #[.string u, .slice a n cap] w fun e w' => e = .returned (.bool true) ∧ Below w.heap.size w w' := by
  go_enter Try.func3, Try.ntmps3
  go_wp2_with fail
  refine (bytes7 _ _ _ _ _ _ h).mono ?_
  rintro e w' ⟨⟨x, rfl⟩, rfl⟩
  cases x with
  | false =>
    go_wp2
    go_ret
    exact ⟨rfl, Below.refl _ _⟩
  | true =>
    go_wp2_with fail
    refine (left_full _ _ _ _ _ _ _ (by omega) (by omega) h).mono ?_
    rintro e w ⟨⟨r, rfl, hr3⟩, rfl⟩
    by_cases hr : r < 0
    · go_wp2
      go_ret
      exact ⟨rfl, Below.refl _ _⟩
    · obtain ⟨_, hb1, hfs⟩ := hr3 (by omega)
      have HF : Hid (∀ i, i < n → ((f i).size : Int) ≤ 1048576) := hfs
      clear hfs hr3
      go_wp2_with fail
      refine (clone_any a n cap f _ (by omega) hnil h).mono ?_
      rintro e w1 ⟨⟨aw, rfl, hW, hwn⟩, hB1⟩
      have h1 := h.keep hB1
      go_wp2_with fail
      refine (clone_any a n cap f _ (by omega) hnil h1).mono ?_
      rintro e w2 ⟨⟨ae, rfl, hE, hen⟩, hB2⟩
      have hW2 := hW.keep hB2
      have BL := hB1.trans (hB2.mono hB1.size)
      clear h h1 hW hB1 hB2 hnil
      have hE3 := hE.keep (one_new w2 (.cells #[.string u, .slice ae n n] 27))
      have hW3 := hW2.keep (one_new w2 (.cells #[.string u, .slice ae n n] 27))
      have BL2 := BL.trans ((one_new w2 (.cells #[.string u, .slice ae n n] 27)).mono BL.size)
      clear hE hW2 BL
      by_cases hn0 : n = 0
      · subst hn0
        go_wp2_with fail
        refine (parent_none u ae 0 _).mono ?_
        rintro e w3 ⟨rfl, hbA⟩
        obtain ⟨hcA, hfA⟩ := bcellS hbA
        have hsA : w2.heap.size < w3.heap.size := by have := hbA.size; simp at this; omega
        have BL3 := BL2.trans (hbA.mono BL2.size)
        go_wp2_with fail
        refine (base_none u ae 0 _).mono ?_
        rintro e w4 ⟨rfl, hbB⟩
        obtain ⟨hcB, hfB⟩ := bcellS hbB
        have BL4 := (BL3.trans ((one_new w3 (.cells #[.string u, .slice ae 0 0] 27)).mono BL3.size)).trans (hbB.mono (by have := BL3.size; simp; omega))
        go_wp2_with fail
        go_ret
        exact ⟨rfl, BL4⟩
      · obtain ⟨k, rfl⟩ : ∃ k, n = k + 1 := ⟨n - 1, by omega⟩
        have hk : (k : Int) ≤ 65535 := by omega
        have hz : ((k : Int) + 1 == 0) = false := by rw [beq_eq_false_iff_ne]; omega
        clear hb1 hn0 hr
        go_wp2_with fail
        refine (parent_some u ae (k + 1) (k + 1) f _ (by omega) (by omega) (Nat.le_refl _) hE3).mono ?_
        rw [Nat.add_sub_cancel]
        rintro e w3 ⟨rfl, hbA⟩
        obtain ⟨hcA, hfA⟩ := bcellS hbA
        have hsA : w2.heap.size < w3.heap.size := by have := hbA.size; simp at this; omega
        have BL3 := BL2.trans (hbA.mono BL2.size)
        have hE4 := (hE3.keep hbA).keep (one_new w3 (.cells #[.string u, .slice ae k k] 27))
        have hW4 := (hW3.keep hbA).keep (one_new w3 (.cells #[.string u, .slice ae k k] 27))
        go_wp2_with fail
        refine (base_some u ae (k + 1) (k + 1) f _ (by omega) (by omega) hE4).mono ?_
        rw [Nat.add_sub_cancel]
        rintro e w4 ⟨rfl, hbB⟩
        obtain ⟨hcB, hfB⟩ := bcellS hbB
        have BL4 := (BL3.trans ((one_new w3 (.cells #[.string u, .slice ae k k] 27)).mono BL3.size)).trans (hbB.mono (by have := BL3.size; simp; omega))
        have hE5 := hE4.keep hbB
        have hW5 := hW4.keep hbB
        clear hE4 hW4 hE3 hW3 hbA hbB BL3 BL2
        have c7 : w4.cell? ⟨w3.heap.size, 1, none⟩ = some (.slice ae k k) := by rw [hcB _ _ (by simp)]; simp
        go_wp2_with fail
        clear hcA hfA hcB hfB hsA
        obtain ⟨b, off, rfl, hc⟩ := hW5 (by omega)
        have hck := hc k (by omega)
        have hb := cell_lt hck
        have hi1 : (k : Int) < (k : Int) + 1 := by omega
        clear hc
        go_quiet ((go_at_call 12; refine Calls.quiet_of (eq_self _ _ _ _ _ f _ (by omega) ?_ ?_); exact hE5.shorter (by omega); exact hW5.shorter (by omega)))
        go_wp2_with fail
        have BL5 := below_drewN BL4 nq
        have hE6 : Row (w4.drewN nq) ae (k + 1) f := hE5
        have hW6 : Row (w4.drewN nq) (some ⟨b, off, none⟩) (k + 1) f := hW5
        have c8 : (w4.drewN nq).cell? ⟨w3.heap.size, 1, none⟩ = some (.slice ae k k) := c7
        have c9 : (w4.drewN nq).cell? ⟨b, off + k, none⟩ = some (.string (f k)) := hck
        clear BL4 hE5 hW5 c7 hck hb hwn
        generalize w4.drewN nq = W at BL5 hE6 hW6 c8 c9 ⊢
        obtain ⟨be, offe, rfl, hce⟩ := hE6 (by omega)
        have HC : Hid (∀ i, i < k + 1 → W.cell? ⟨be, offe + i, none⟩ = some (.string (f i))) := hce
        clear hce hen
        have hsize : (f k).size + 1 ≤ 9223372036854775807 := by have := HF.out k (by omega); omega
        have hadd : ∀ w : World, (Op.stringOp .add (f k) ⟨#[47]⟩).run Try.prog w = .ok (.string (f k ++ ⟨#[47]⟩)) w := fun w => run_string_add_sum w _ _ hsize
        obtain ⟨i0, hi, hz0, hz1, hz2⟩ := info_parts info9
        go_region_held3 (fun w' => w'.cell? ⟨w3.heap.size, 1, none⟩ = some (.slice (some ⟨be, offe, none⟩) k k) ∧ w'.cell? ⟨b, off + k, none⟩ = some (.string (f k))) (go_keep) ((refine step_append_grows (by rfl) (.tmp 64) (.tmp 70) 22 (by rfl) 9 i0 (.string ByteArray.empty) 1 16 Try.underlying22 hi hz0 hz1 hz2 (by rfl) (by omega) (some ⟨be, offe, none⟩) k k (olds f k) (by rfl) (fun h => by cases h) (by rw [olds_length]; omega) (hold HC.out (((Below.refl _ _).alloc (Nat.le_refl _) _).drew)) ⟨W.heap.size, 0, none⟩ 1 1 [.string (f k ++ ⟨#[47]⟩)] (by rfl) (by rfl) (new_cell W _) (one_str _) (by omega) (by unfold maxLen; omega) (by omega) ?_; intro v' w' hown hgrow; have hBw := grew W w' _ hgrow; have s1 := kept hBw c8; have s2 := kept hBw c9; obtain ⟨g, cp, rfl⟩ := form (by omega) hown))
        have hg := own_last hown
        have hE7 := (hE6.keep hBw)
        have hW7 := (hW6.keep hBw)
        have BL6 := BL5.trans (hBw.mono BL5.size)
        have hne := longer (f k)
        clear hE6 hW6 hBw BL5 hown hgrow hadd hsize hi hz0 hz1 hz2 c8 c9 s1
        go_wp2_with fail
        go_quiet ((go_at_call 12; refine Calls.quiet_of (eq_self _ _ _ _ _ f _ (by omega) ?_ ?_); exact hE7; exact hW7))
        go_wp2_with fail
        go_ret
        exact ⟨rfl, below_drewN BL6 _⟩
end Go.Proofs.Qxb6619296a
