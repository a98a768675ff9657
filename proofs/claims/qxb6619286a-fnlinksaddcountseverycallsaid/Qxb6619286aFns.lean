import Derived.Test.Qxb6619286aMap
namespace Go.Proofs.Qxb6619286a
open Go.RowKit

theorem ret_bool {x y : Bool} (h : x = y) : Ending.returned (.bool x) = .returned (.bool y) := by rw [h]
theorem one_new (w : World) (x : Obj) : Below w.heap.size w (w.alloc x) := (Below.refl _ _).alloc (Nat.le_refl _) _
theorem below_map {B : Nat} {w w' : World} (hg : w.grownBy w' (some B)) (hB : B ≤ w.heap.size) : Below B w w' :=
  (Below.refl _ _).grown hg hB (fun k hk => by injection hk with hk; omega)

set_option maxHeartbeats 400000 in
theorem joins_any (p c : ByteArray) (w : World) :
    Calls Try.prog 10 #[.string p, .string c] w fun e w' => e = .returned (.bool (joins p c)) ∧ w' = w := by
  go_enter Try.func10, Try.ntmps10
  go_wp2
  · go_ret
    exact ⟨ret_bool (x := false) (by simp [joins, *]), rfl⟩
  · go_ret
    exact ⟨ret_bool (x := false) (by simp [joins, *]), rfl⟩
  · go_ret
    exact ⟨rfl, rfl⟩

theorem new_any (w : World) : Calls Try.prog 7 #[] w fun e w' => e = .returned (.map (some w.heap.size)) ∧ w' = w.alloc (.map #[] 0) := by
  have hmm := @run_makeMap Try.prog
  go_enter Try.func7, Try.ntmps7
  go_wp2
  go_ret
  exact ⟨rfl, rfl⟩

theorem len_any (B n : Nat) (ks : List (ByteArray × ByteArray)) (C E : ByteArray × ByteArray → Int) (w : World) (h : Links w B n ks C E) :
    Calls Try.prog 11 #[.map (some B)] w fun e w' => e = .returned (.int .i64 ks.length) ∧ w' = w := by
  have hl := fun ty => h.len ty
  clear h
  go_enter Try.func11, Try.ntmps11
  go_wp2
  go_ret
  exact ⟨rfl, rfl⟩

set_option maxHeartbeats 400000 in
theorem put_any (B n : Nat) (ks : List (ByteArray × ByteArray)) (C E : ByteArray × ByteArray → Int) (p c : ByteArray) (x y : Int) (w : World) (h : Links w B n ks C E) (hk : OkKey (p, c)) (hn : n < maxLen) :
    Calls Try.prog 8 #[.map (some B), .string p, .string c, .int .i64 x, .int .i64 y] w fun e w' => e = .returned (.tuple #[]) ∧ Links w' B (n + 1) (ins ks (p, c)) (upd C (p, c) x) (upd E (p, c) y) ∧ Below B w w' := by
  have hlt := h.lt
  obtain ⟨w', hrun, hL, _, hg⟩ := h.put (p, c) hk hn x y
  have hB : Below B w w' := ((one_new w _).mono (Nat.le_of_lt hlt)).trans (below_map hg (by simp; omega))
  unfold kv at hrun
  clear h
  go_enter Try.func8, Try.ntmps8
  go_wp2
  go_end0
  exact ⟨rfl, hL, hB⟩

/-! ### add -/
theorem joins_parts {p c : ByteArray} (h : joins p c = true) : p.toList.isEmpty = false ∧ c.toList.isEmpty = false ∧ (p.toList == c.toList) = false := by
  unfold joins at h
  simp only [Bool.and_eq_true, Bool.not_eq_true'] at h
  exact ⟨h.1.1, h.1.2, h.2⟩

theorem add_no (l : Value) (p c : ByteArray) (x : Bool) (w : World) (hj : joins p c = false) :
    Calls Try.prog 13 #[l, .string p, .string c, .bool x] w fun e w' => e = .returned (.tuple #[]) ∧ w' = w := by
  by_cases h1 : p.toList.isEmpty = true
  · go_enter Try.func13, Try.ntmps13
    go_wp2
    exact bodyPost_ret (v := .tuple #[]) (by simp [results, Try.results13, go_sem]) rfl ⟨rfl, rfl⟩
  · rw [Bool.not_eq_true] at h1
    by_cases h2 : c.toList.isEmpty = true
    · go_enter Try.func13, Try.ntmps13
      go_wp2
      exact bodyPost_ret (v := .tuple #[]) (by simp [results, Try.results13, go_sem]) rfl ⟨rfl, rfl⟩
    · rw [Bool.not_eq_true] at h2
      have h3 : (p.toList == c.toList) = true := by
        unfold joins at hj
        rw [h1, h2] at hj
        simpa using hj
      clear hj
      go_enter Try.func13, Try.ntmps13
      go_wp2
      exact bodyPost_ret (v := .tuple #[]) (by simp [results, Try.results13, go_sem]) rfl ⟨rfl, rfl⟩

theorem LinkAt.cell {w : World} {g : Nat} {k : ByteArray × ByteArray} {c e : Int} (h : LinkAt w g k c e) : w.cell? ⟨g, 0, none⟩ = some (.string k.1) ∧ w.cell? ⟨g, 1, none⟩ = some (.string k.2) ∧ w.cell? ⟨g, 2, none⟩ = some (.int .i64 c) ∧ w.cell? ⟨g, 3, none⟩ = some (.int .i64 e) ∧ w.frozen? ⟨g, 2, none⟩ = false ∧ w.frozen? ⟨g, 3, none⟩ = false := by
  unfold LinkAt at h
  simp [World.cell?, World.frozen?, h]
theorem LinkAt.set2 {w : World} {g : Nat} {k : ByteArray × ByteArray} {c e : Int} (h : LinkAt w g k c e) (x : Int) : LinkAt (w.setCell ⟨g, 2, none⟩ (.int .i64 x)) g k x e := by
  unfold LinkAt at *
  simp [World.setCell, Array.getElem?_modify, h]
theorem LinkAt.set3 {w : World} {g : Nat} {k : ByteArray × ByteArray} {c e : Int} (h : LinkAt w g k c e) (x : Int) : LinkAt (w.setCell ⟨g, 3, none⟩ (.int .i64 x)) g k c x := by
  unfold LinkAt at *
  simp [World.setCell, Array.getElem?_modify, h]
theorem other_set (w : World) (g o : Nat) (v : Value) : ∀ i, i ≠ g → i < w.heap.size → (w.setCell ⟨g, o, none⟩ v).heap[i]? = w.heap[i]? := fun _ hi _ => Below.heap_setCell _ _ _ _ hi
theorem other_set2 (w : World) (g o o' : Nat) (v v' : Value) : ∀ i, i ≠ g → i < w.heap.size → ((w.setCell ⟨g, o, none⟩ v).setCell ⟨g, o', none⟩ v').heap[i]? = w.heap[i]? := fun _ hi _ => by
  rw [Below.heap_setCell _ _ _ _ hi, Below.heap_setCell _ _ _ _ hi]

/-- behind 'n.CallCount++; if failed { n.ErrorCount++ }' -/
def plus (x : Bool) (e : Int) : Int := if x = true then wrap64 (e + 1) else e

/-- The key is there. -/
theorem add_old (B n g : Nat) (ks : List (ByteArray × ByteArray)) (C E : ByteArray × ByteArray → Int) (p c : ByteArray) (x : Bool) (w : World) (hj : joins p c = true)
    (hB : B < w.heap.size) (hrun : (Instr.lookup 30 (.map (some B)) (kv (p, c)) false).run Try.prog (w.alloc (.cells #[.string p, .string c] 42)) = .ok (.pointer (some ⟨g, 0, none⟩)) (w.alloc (.cells #[.string p, .string c] 42)))
    (bk : Back (w.alloc (.cells #[.string p, .string c] 42)) B n ks C E (p, c) g) :
    Calls Try.prog 13 #[.map (some B), .string p, .string c, .bool x] w fun e w' => e = .returned (.tuple #[]) ∧ Links w' B n ks (upd C (p, c) (wrap64 (C (p, c) + 1))) (upd E (p, c) (plus x (E (p, c)))) ∧ Below B w w' := by
  obtain ⟨j1, j2, j3⟩ := joins_parts hj
  obtain ⟨hL, hBg, back⟩ := bk
  obtain ⟨c0, c1, c2, c3, f2, f3⟩ := hL.cell
  have BL : Below B w (w.alloc (.cells #[.string p, .string c] 42)) := (one_new w _).mono (Nat.le_of_lt hB)
  unfold kv at hrun
  simp only at hrun
  cases x with
  | false =>
    have R := back _ _ _ (hL.set2 (wrap64 (C (p, c) + 1))) (other_set _ g 2 _)
    have BL2 := BL.setCell (p := ⟨g, 2, none⟩) (Nat.le_of_lt hBg) (.int .i64 (wrap64 (C (p, c) + 1)))
    have R' : Hid (Links ((w.alloc (.cells #[.string p, .string c] 42)).setCell ⟨g, 2, none⟩ (.int .i64 (wrap64 (C (p, c) + 1)))) B n ks (upd C (p, c) (wrap64 (C (p, c) + 1))) (upd E (p, c) (plus false (E (p, c))))) := R
    clear R back hL hj
    go_enter Try.func13, Try.ntmps13
    go_wp2
    go_end0
    exact ⟨rfl, R'.out, BL2⟩
  | true =>
    have R := back _ _ _ ((hL.set2 (wrap64 (C (p, c) + 1))).set3 (wrap64 (E (p, c) + 1))) (other_set2 _ g 2 3 _ _)
    have BL2 := (BL.setCell (p := ⟨g, 2, none⟩) (Nat.le_of_lt hBg) (.int .i64 (wrap64 (C (p, c) + 1)))).setCell (p := ⟨g, 3, none⟩) (Nat.le_of_lt hBg) (.int .i64 (wrap64 (E (p, c) + 1)))
    have R' : Hid (Links (((w.alloc (.cells #[.string p, .string c] 42)).setCell ⟨g, 2, none⟩ (.int .i64 (wrap64 (C (p, c) + 1)))).setCell ⟨g, 3, none⟩ (.int .i64 (wrap64 (E (p, c) + 1)))) B n ks (upd C (p, c) (wrap64 (C (p, c) + 1))) (upd E (p, c) (plus true (E (p, c))))) := R
    clear R back hL hj
    go_enter Try.func13, Try.ntmps13
    go_wp2
    go_end0
    exact ⟨rfl, R'.out, BL2⟩

theorem wrap_one : wrap64 (0 + 1) = 1 := by unfold wrap64; omega
theorem plus_one : plus true 0 = 1 := by unfold plus; rw [if_pos rfl, wrap_one]

/-- The key is not there. -/
theorem add_new (B n : Nat) (ks : List (ByteArray × ByteArray)) (C E : ByteArray × ByteArray → Int) (p c : ByteArray) (x : Bool) (w w3 : World) (hj : joins p c = true) (hB : B < w.heap.size)
    (hrun : (Instr.lookup 30 (.map (some B)) (kv (p, c)) false).run Try.prog (w.alloc (.cells #[.string p, .string c] 42)) = .ok (.pointer none) (w.alloc (.cells #[.string p, .string c] 42)))
    (hput : (Instr.mapUpdate 30 (.map (some B)) (kv (p, c)) (.pointer (some ⟨w.heap.size + 1, 0, none⟩))).run Try.prog ((w.alloc (.cells #[.string p, .string c] 42)).alloc (.cells #[.string p, .string c, .int .i64 0, .int .i64 0] 40)) = .ok () w3)
    (hg : ((w.alloc (.cells #[.string p, .string c] 42)).alloc (.cells #[.string p, .string c, .int .i64 0, .int .i64 0] 40)).grownBy w3 (some B))
    (bk : Back w3 B n ks (upd C (p, c) 0) (upd E (p, c) 0) (p, c) (w.heap.size + 1)) :
    Calls Try.prog 13 #[.map (some B), .string p, .string c, .bool x] w fun e w' => e = .returned (.tuple #[]) ∧ Links w' B n ks (upd C (p, c) 1) (upd E (p, c) (plus x 0)) ∧ Below B w w' := by
  obtain ⟨j1, j2, j3⟩ := joins_parts hj
  obtain ⟨hL, hBg, back⟩ := bk
  rw [upd_same, upd_same] at hL
  obtain ⟨c0, c1, c2, c3, f2, f3⟩ := hL.cell
  have BL0 : Below B w ((w.alloc (.cells #[.string p, .string c] 42)).alloc (.cells #[.string p, .string c, .int .i64 0, .int .i64 0] 40)) := ((one_new w _).mono (Nat.le_of_lt hB)).trans ((one_new _ _).mono (by simp; omega))
  have BL : Below B w w3 := BL0.trans (below_map hg (by simp; omega))
  unfold kv at hrun hput
  simp only at hrun hput
  cases x with
  | false =>
    have R := back _ _ _ (hL.set2 1) (other_set _ _ 2 _)
    rw [upd_upd, upd_upd] at R
    have BL2 := BL.setCell (p := ⟨w.heap.size + 1, 2, none⟩) (Nat.le_of_lt hBg) (.int .i64 1)
    have R' : Hid (Links (w3.setCell ⟨w.heap.size + 1, 2, none⟩ (.int .i64 1)) B n ks (upd C (p, c) 1) (upd E (p, c) (plus false 0))) := R
    clear R back hL hj hg BL0
    go_enter Try.func13, Try.ntmps13
    go_wp2
    go_end0
    exact ⟨rfl, R'.out, BL2⟩
  | true =>
    have R := back _ _ _ ((hL.set2 1).set3 1) (other_set2 _ _ 2 3 _ _)
    rw [upd_upd, upd_upd] at R
    have BL2 := (BL.setCell (p := ⟨w.heap.size + 1, 2, none⟩) (Nat.le_of_lt hBg) (.int .i64 1)).setCell (p := ⟨w.heap.size + 1, 3, none⟩) (Nat.le_of_lt hBg) (.int .i64 1)
    have R' : Hid (Links ((w3.setCell ⟨w.heap.size + 1, 2, none⟩ (.int .i64 1)).setCell ⟨w.heap.size + 1, 3, none⟩ (.int .i64 1)) B n ks (upd C (p, c) 1) (upd E (p, c) (plus true 0))) := by rw [plus_one]; exact R
    clear R back hL hj hg BL0
    go_enter Try.func13, Try.ntmps13
    go_wp2
    go_end0
    exact ⟨rfl, R'.out, BL2⟩

theorem Links.mono {w : World} {B n m : Nat} {ks : List (ByteArray × ByteArray)} {C E : ByteArray × ByteArray → Int} (h : Links w B n ks C E) (hm : n ≤ m) : Links w B m ks C E := by
  obtain ⟨D, G, h1, r⟩ := h
  exact ⟨D, G, h1.mono hm, r⟩

theorem add_yes (B n : Nat) (ks : List (ByteArray × ByteArray)) (C E : ByteArray × ByteArray → Int) (p c : ByteArray) (x : Bool) (w : World) (h : Links w B n ks C E) (hk : OkKey (p, c)) (hn : n < maxLen) (h0 : ¬ (p, c) ∈ ks → C (p, c) = 0 ∧ E (p, c) = 0) (hj : joins p c = true) :
    Calls Try.prog 13 #[.map (some B), .string p, .string c, .bool x] w fun e w' => e = .returned (.tuple #[]) ∧ Links w' B (n + 1) (ins ks (p, c)) (upd C (p, c) (wrap64 (C (p, c) + 1))) (upd E (p, c) (plus x (E (p, c)))) ∧ Below B w w' := by
  have hB := h.lt
  have h1 := h.keep (one_new w (.cells #[.string p, .string c] 42))
  rcases h1.look (p, c) hk with ⟨hm, hrun⟩ | ⟨hm, g, hrun, bk⟩
  · obtain ⟨w3, hput, hL, bk, hg⟩ := h1.put (p, c) hk hn 0 0
    rw [World.size_alloc] at hput bk
    obtain ⟨e1, e2⟩ := h0 hm
    rw [e1, e2, wrap_one]
    exact add_new B (n + 1) (ins ks (p, c)) C E p c x w w3 hj hB hrun hput hg bk
  · have e : ins ks (p, c) = ks := by unfold ins; rw [if_pos (memK_yes hm)]
    rw [e]
    refine (add_old B n g ks C E p c x w hj hB hrun bk).mono ?_
    rintro e w' ⟨rfl, hL, hb⟩
    exact ⟨rfl, hL.mono (by omega), hb⟩

/-- What one call of add makes of the keys and the counts. -/
def ksAdd (ks : List (ByteArray × ByteArray)) (p c : ByteArray) : List (ByteArray × ByteArray) := if joins p c = true then ins ks (p, c) else ks
def cAdd (C : ByteArray × ByteArray → Int) (p c : ByteArray) : ByteArray × ByteArray → Int := if joins p c = true then upd C (p, c) (wrap64 (C (p, c) + 1)) else C
def eAdd (E : ByteArray × ByteArray → Int) (p c : ByteArray) (x : Bool) : ByteArray × ByteArray → Int := if joins p c = true then upd E (p, c) (plus x (E (p, c))) else E

theorem add_any (B n : Nat) (ks : List (ByteArray × ByteArray)) (C E : ByteArray × ByteArray → Int) (p c : ByteArray) (x : Bool) (w : World) (h : Links w B n ks C E) (hk : OkKey (p, c)) (hn : n < maxLen) (h0 : ¬ (p, c) ∈ ks → C (p, c) = 0 ∧ E (p, c) = 0) :
    Calls Try.prog 13 #[.map (some B), .string p, .string c, .bool x] w fun e w' => e = .returned (.tuple #[]) ∧ Links w' B (n + 1) (ksAdd ks p c) (cAdd C p c) (eAdd E p c x) ∧ Below B w w' := by
  by_cases hj : joins p c = true
  · have C0 := add_yes B n ks C E p c x w h hk hn h0 hj
    unfold ksAdd cAdd eAdd
    rw [if_pos hj, if_pos hj, if_pos hj]
    exact C0
  · unfold ksAdd cAdd eAdd
    rw [if_neg hj, if_neg hj, if_neg hj]
    refine (add_no (.map (some B)) p c x w (by simpa using hj)).mono ?_
    rintro e w' ⟨rfl, rfl⟩
    exact ⟨rfl, h.mono (by omega), Below.refl _ _⟩

theorem zzadd_any (B n : Nat) (ks : List (ByteArray × ByteArray)) (C E : ByteArray × ByteArray → Int) (p c : ByteArray) (x : Bool) (w : World) (h : Links w B n ks C E) (hk : OkKey (p, c)) (hn : n < maxLen) (h0 : ¬ (p, c) ∈ ks → C (p, c) = 0 ∧ E (p, c) = 0) :
    Calls Try.prog 9 #[.map (some B), .string p, .string c, .bool x] w fun e w' => e = .returned (.tuple #[]) ∧ Links w' B (n + 1) (ksAdd ks p c) (cAdd C p c) (eAdd E p c x) ∧ Below B w w' := by
  go_enter Try.func9, Try.ntmps9
  go_wp2_with fail
  refine (add_any B n ks C E p c x w h hk hn h0).mono ?_
  clear h h0
  rintro e w' ⟨rfl, hL, hb⟩
  go_wp2_with fail
  go_end0
  exact ⟨rfl, hL, hb⟩

set_option maxHeartbeats 400000 in
theorem get_any (B n : Nat) (ks : List (ByteArray × ByteArray)) (C E : ByteArray × ByteArray → Int) (p c : ByteArray) (w : World) (h : Links w B n ks C E) (hk : OkKey (p, c)) (hm : (p, c) ∈ ks) :
    Calls Try.prog 12 #[.map (some B), .string p, .string c] w fun e w' => e = .returned (.tuple #[.string p, .string c, .int .i64 (C (p, c)), .int .i64 (E (p, c)), .bool true]) ∧ ∃ q, w' = w.drewN q := by
  rcases h.look (p, c) hk with ⟨hn, _⟩ | ⟨_, g, hrun, ⟨hL, _, _⟩⟩
  · exact absurd hm hn
  · obtain ⟨c0, c1, c2, c3, _, _⟩ := hL.cell
    unfold kv at hrun
    simp only at hrun c0 c1
    clear h hL hm
    go_enter Try.func12, Try.ntmps12
    go_wp2
    go_quiet (fail)
    go_wp2
    exact bodyPost_ret (v := .tuple #[.string p, .string c, .int .i64 (C (p, c)), .int .i64 (E (p, c)), .bool true]) (by simp [results, Try.results12, go_sem]) rfl ⟨rfl, _, rfl⟩

end Go.Proofs.Qxb6619286a
