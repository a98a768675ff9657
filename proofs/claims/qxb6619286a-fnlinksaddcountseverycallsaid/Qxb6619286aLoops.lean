import Derived.Test.Qxb6619286aFns
import Derived.Maps.AppendAt
namespace Go.Proofs.Qxb6619286a
open Go.RowKit

/-- The bodies of a code's loops, in the text's order, an outer one ahead of its inner ones. -/
def loopsIn : Code → List Code
  | .loop c => c :: loopsIn c
  | .seq a b => loopsIn a ++ loopsIn b
  | .block _ c => loopsIn c
  | .scope c => loopsIn c
  | .cond _ a b => loopsIn a ++ loopsIn b
  | _ => []
/-- The body of the n-th loop of a function. -/
def loopOf (f : Func) (n : Nat) : Code := ((f.body.map loopsIn).getD [])[n]?.getD .skip

/-! ### The keys and the counts behind i puts, behind j calls of add -/
def ksPut (f0 f1 : Nat → ByteArray) : Nat → List (ByteArray × ByteArray)
  | 0 => []
  | i + 1 => ins (ksPut f0 f1 i) (f0 i, f1 i)
def vPut (f0 f1 : Nat → ByteArray) (z : Nat → Int) : Nat → ByteArray × ByteArray → Int
  | 0 => fun _ => 0
  | i + 1 => upd (vPut f0 f1 z i) (f0 i, f1 i) (z i)

/-- The world behind i puts into the map at block B. -/
def PutRel (w0 : World) (B : Nat) (f0 f1 : Nat → ByteArray) (z2 z3 : Nat → Int) (i : Nat) (w : World) : Prop :=
  Links w B i (ksPut f0 f1 i) (vPut f0 f1 z2 i) (vPut f0 f1 z3 i) ∧ Below B w0 w

theorem Row.under {w w' : World} {a : Option Addr} {n : Nat} {V : Nat → Value} {B : Nat} (h : Row w a n V) (hB : w.heap.size ≤ B) (hb : Below B w w') : Row w' a n V := by
  intro hn
  obtain ⟨b, off, ha, hc⟩ := h hn
  exact ⟨b, off, ha, fun i hi => (hb.cell (p := ⟨b, off + i, none⟩) (by have := cell_lt (hc i hi); show b < B; omega)).trans (hc i hi)⟩
def ksCall (ks : List (ByteArray × ByteArray)) (f4 f5 : Nat → ByteArray) : Nat → List (ByteArray × ByteArray)
  | 0 => ks
  | j + 1 => ksAdd (ksCall ks f4 f5 j) (f4 j) (f5 j)
def cCall (C : ByteArray × ByteArray → Int) (f4 f5 : Nat → ByteArray) : Nat → ByteArray × ByteArray → Int
  | 0 => C
  | j + 1 => cAdd (cCall C f4 f5 j) (f4 j) (f5 j)
def eCall (E : ByteArray × ByteArray → Int) (f4 f5 : Nat → ByteArray) (b6 : Nat → Bool) : Nat → ByteArray × ByteArray → Int
  | 0 => E
  | j + 1 => eAdd (eCall E f4 f5 b6 j) (f4 j) (f5 j) (b6 j)

/-- A key that is not there has no counts. -/
def Zero (ks : List (ByteArray × ByteArray)) (C E : ByteArray × ByteArray → Int) : Prop := ∀ k, ¬ k ∈ ks → C k = 0 ∧ E k = 0
theorem Zero.put {ks : List (ByteArray × ByteArray)} {C E : ByteArray × ByteArray → Int} (h : Zero ks C E) (k : ByteArray × ByteArray) (x y : Int) : Zero (ins ks k) (upd C k x) (upd E k y) := by
  intro a ha
  have h1 : ¬ a = k := fun e => ha (mem_ins.2 (Or.inr e))
  rw [upd_other _ _ h1, upd_other _ _ h1]
  exact h a (fun hm => ha (mem_ins.2 (Or.inl hm)))
theorem zero_put (f0 f1 : Nat → ByteArray) (z2 z3 : Nat → Int) : ∀ i, Zero (ksPut f0 f1 i) (vPut f0 f1 z2 i) (vPut f0 f1 z3 i)
  | 0 => fun _ _ => ⟨rfl, rfl⟩
  | i + 1 => (zero_put f0 f1 z2 z3 i).put _ _ _
theorem zero_call {ks : List (ByteArray × ByteArray)} {C E : ByteArray × ByteArray → Int} (h : Zero ks C E) (f4 f5 : Nat → ByteArray) (b6 : Nat → Bool) : ∀ j, Zero (ksCall ks f4 f5 j) (cCall C f4 f5 j) (eCall E f4 f5 b6 j)
  | 0 => h
  | j + 1 => by
    have ih := zero_call h f4 f5 b6 j
    show Zero (ksAdd _ _ _) (cAdd _ _ _) (eAdd _ _ _ _)
    unfold ksAdd cAdd eAdd
    split
    · exact ih.put _ _ _
    · exact ih

/-- The world behind j calls of add. -/
def AddRel (w0 : World) (B m : Nat) (ks : List (ByteArray × ByteArray)) (C E : ByteArray × ByteArray → Int) (f4 f5 : Nat → ByteArray) (b6 : Nat → Bool) (j : Nat) (w : World) : Prop :=
  Links w B (m + j) (ksCall ks f4 f5 j) (cCall C f4 f5 j) (eCall E f4 f5 b6 j) ∧ Below B w0 w

/-- A row that came in lies below the blocks of the call's own. -/
theorem Row.low {w : World} {b o n : Nat} {V : Nat → Value} {B : Nat} (h : Row w (some ⟨b, o, none⟩) n V) (hB : B = w.heap.size) (hn : 0 < n) {k : Nat} (hk : k < n) : b < B := by
  obtain ⟨b', off, ha, hc⟩ := h hn
  injection ha with ha
  injection ha with h1 h2
  subst h1
  rw [hB]
  exact cell_lt (hc k hk)
theorem low_cell {w w' : World} {B b o : Nat} {v : Value} (hb : Below B w w') (h : w.cell? ⟨b, o, none⟩ = some v) (hl : b < B) : w'.cell? ⟨b, o, none⟩ = some v :=
  (hb.cell (p := ⟨b, o, none⟩) hl).trans h

/-! ### The keys that the law lists -/
/-- Is there a later entry of the same pair? -/
def later (f0 f1 : Nat → ByteArray) (np i : Nat) : Bool := (List.range np).any fun j => decide (i < j) && eqK (f0 j, f1 j) (f0 i, f1 i)
theorem later_yes {f0 f1 : Nat → ByteArray} {np i j : Nat} (hij : i < j) (hj : j < np) (h : eqK (f0 j, f1 j) (f0 i, f1 i) = true) : later f0 f1 np i = true := by
  unfold later
  rw [List.any_eq_true]
  exact ⟨j, List.mem_range.2 hj, by rw [h]; simp [hij]⟩
theorem later_no {f0 f1 : Nat → ByteArray} {np i : Nat} (h : ∀ j, i < j → j < np → eqK (f0 j, f1 j) (f0 i, f1 i) = false) : later f0 f1 np i = false := by
  cases hh : later f0 f1 np i
  · rfl
  · exfalso
    unfold later at hh
    rw [List.any_eq_true] at hh
    obtain ⟨j, hj, hb⟩ := hh
    rw [Bool.and_eq_true, decide_eq_true_eq] at hb
    rw [h j hb.1 (List.mem_range.1 hj)] at hb
    cases hb.2
theorem eqK_mk {p c p' c' : ByteArray} {x y : Bool} (h1 : (p.toList == p'.toList) = x) (h2 : (c.toList == c'.toList) = y) : eqK (p, c) (p', c') = (x && y) := by
  unfold eqK; rw [h1, h2]
theorem eqK_fst {p c p' c' : ByteArray} (h1 : (p.toList == p'.toList) = false) : eqK (p, c) (p', c') = false := by
  unfold eqK; rw [h1]; rfl

/-- A listed key: the pair, its counts at the start. -/
def klPref (f0 f1 : Nat → ByteArray) (z2 z3 : Nat → Int) (np : Nat) : Nat → List ((ByteArray × ByteArray) × Int × Int)
  | 0 => []
  | i + 1 => if later f0 f1 np i = true then klPref f0 f1 z2 z3 np i else klPref f0 f1 z2 z3 np i ++ [((f0 i, f1 i), z2 i, z3 i)]
theorem klPref_length (f0 f1 : Nat → ByteArray) (z2 z3 : Nat → Int) (np : Nat) : ∀ i, (klPref f0 f1 z2 z3 np i).length ≤ i
  | 0 => Nat.le_refl _
  | i + 1 => by
    have ih := klPref_length f0 f1 z2 z3 np i
    unfold klPref
    split
    · omega
    · simp; omega

/-- The four slices that hold the listed keys. -/
def KRel (w : World) (H g1 g2 g3 g4 cap : Nat) (KL : List ((ByteArray × ByteArray) × Int × Int)) : Prop :=
  w.ownsRow H 9 1 (.slice (some ⟨g1, 0, none⟩) KL.length cap) KL.length (KL.map fun x => Value.string x.1.1) ∧
  w.ownsRow H 9 1 (.slice (some ⟨g2, 0, none⟩) KL.length cap) KL.length (KL.map fun x => Value.string x.1.2) ∧
  w.ownsRow H 2 1 (.slice (some ⟨g3, 0, none⟩) KL.length cap) KL.length (KL.map fun x => Value.int .i64 x.2.1) ∧
  w.ownsRow H 2 1 (.slice (some ⟨g4, 0, none⟩) KL.length cap) KL.length (KL.map fun x => Value.int .i64 x.2.2)

theorem krel_push {w : World} {H g1 g2 g3 g4 cap : Nat} {KL : List ((ByteArray × ByteArray) × Int × Int)} {p c : ByteArray} {x y : Int}
    (o1 : w.ownsRow H 9 1 (.slice (some ⟨g1, 0, none⟩) (KL.length + 1) cap) (KL.length + 1) ((KL.map fun x => Value.string x.1.1) ++ [.string p]))
    (o2 : w.ownsRow H 9 1 (.slice (some ⟨g2, 0, none⟩) (KL.length + 1) cap) (KL.length + 1) ((KL.map fun x => Value.string x.1.2) ++ [.string c]))
    (o3 : w.ownsRow H 2 1 (.slice (some ⟨g3, 0, none⟩) (KL.length + 1) cap) (KL.length + 1) ((KL.map fun x => Value.int .i64 x.2.1) ++ [.int .i64 x]))
    (o4 : w.ownsRow H 2 1 (.slice (some ⟨g4, 0, none⟩) (KL.length + 1) cap) (KL.length + 1) ((KL.map fun x => Value.int .i64 x.2.2) ++ [.int .i64 y])) :
    KRel w H g1 g2 g3 g4 cap (KL ++ [((p, c), x, y)]) := by
  unfold KRel
  rw [List.length_append, List.map_append, List.map_append, List.map_append, List.map_append]
  exact ⟨o1, o2, o3, o4⟩
theorem slice_len {g n m cap : Nat} (h : n = m) : Value.slice (some ⟨g, 0, none⟩) n cap = .slice (some ⟨g, 0, none⟩) m cap := by rw [h]

theorem kept_row {W w1 : World} {o : Obj} {base e n cap g g' : Nat} {xs : List Value} (h : W.ownsRow base e 1 (.slice (some ⟨g, 0, none⟩) n cap) n xs) (hg : (W.alloc o).grownBy w1 (some g')) (hne : g ≠ g') : w1.ownsRow base e 1 (.slice (some ⟨g, 0, none⟩) n cap) n xs :=
  (h.alloc o).kept hg (Or.inr (by simpa [Value.ownBlock] using hne))
theorem push_below {W w1 : World} {o : Obj} {H g : Nat} (hg : (W.alloc o).grownBy w1 (some g)) (hH : H ≤ g) (hs : H ≤ W.heap.size) : Below H W w1 :=
  ((Below.refl H W).alloc hs o).grown hg (by simp; omega) (fun k hk => by injection hk with hk; omega)
theorem one_cell (v : Value) (h : v.oneCell' = true) : ∀ u ∈ [v], u.oneCell' = true := by
  intro u hu; simp at hu; subst hu; exact h
theorem info9 : (Try.prog.info? 9).map (fun i => (i.zero, i.size, i.bytes)) = some (some (.string ByteArray.empty), 1, 16) := by kernel_rfl
theorem info2 : (Try.prog.info? 2).map (fun i => (i.zero, i.size, i.bytes)) = some (some (.int .i64 0), 1, 8) := by kernel_rfl

/-- The k-th listed key. -/
def kAt (KL : List ((ByteArray × ByteArray) × Int × Int)) (k : Nat) : (ByteArray × ByteArray) × Int × Int := KL.getD k ((ByteArray.empty, ByteArray.empty), 0, 0)
theorem kAt_mem {KL : List ((ByteArray × ByteArray) × Int × Int)} {k : Nat} (h : k < KL.length) : kAt KL k ∈ KL := by
  unfold kAt
  rw [List.getD_eq_getElem?_getD, List.getElem?_eq_getElem h]
  exact List.getElem_mem h
theorem kAt_get {KL : List ((ByteArray × ByteArray) × Int × Int)} {k : Nat} (h : k < KL.length) : KL[k]? = some (kAt KL k) := by
  unfold kAt
  rw [List.getD_eq_getElem?_getD, List.getElem?_eq_getElem h]
  rfl
theorem KRel.cells {w : World} {H g1 g2 g3 g4 cap : Nat} {KL : List ((ByteArray × ByteArray) × Int × Int)} (h : KRel w H g1 g2 g3 g4 cap KL) {k : Nat} (hk : k < KL.length) :
    w.cell? ⟨g1, k, none⟩ = some (.string (kAt KL k).1.1) ∧ w.cell? ⟨g2, k, none⟩ = some (.string (kAt KL k).1.2) ∧ w.cell? ⟨g3, k, none⟩ = some (.int .i64 (kAt KL k).2.1) ∧ w.cell? ⟨g4, k, none⟩ = some (.int .i64 (kAt KL k).2.2) := by
  obtain ⟨o1, o2, o3, o4⟩ := h
  rw [o1.cellAt k (by omega), o2.cellAt k (by omega), o3.cellAt k (by omega), o4.cellAt k (by omega)]
  simp [kAt_get hk]

/-- Is the key listed? -/
def listed (KL : List ((ByteArray × ByteArray) × Int × Int)) (key : ByteArray × ByteArray) : Bool := KL.any fun x => eqK x.1 key
theorem listed_yes {KL : List ((ByteArray × ByteArray) × Int × Int)} {key : ByteArray × ByteArray} {k : Nat} (hk : k < KL.length) (h : eqK (kAt KL k).1 key = true) : listed KL key = true := by
  unfold listed
  rw [List.any_eq_true]
  exact ⟨_, kAt_mem hk, h⟩
theorem listed_no {KL : List ((ByteArray × ByteArray) × Int × Int)} {key : ByteArray × ByteArray} (h : ∀ k, k < KL.length → eqK (kAt KL k).1 key = false) : listed KL key = false := by
  cases hh : listed KL key
  · rfl
  · exfalso
    unfold listed at hh
    rw [List.any_eq_true] at hh
    obtain ⟨x, hx, hb⟩ := hh
    obtain ⟨k, hk⟩ := List.getElem?_of_mem hx
    have hlt := (List.getElem?_eq_some_iff.1 hk).1
    rw [kAt_get hlt] at hk
    injection hk with hk
    rw [← hk, h k hlt] at hb
    cases hb

def klCall (KL : List ((ByteArray × ByteArray) × Int × Int)) (f4 f5 : Nat → ByteArray) : Nat → List ((ByteArray × ByteArray) × Int × Int)
  | 0 => KL
  | i + 1 => if joins (f4 i) (f5 i) = true ∧ listed (klCall KL f4 f5 i) (f4 i, f5 i) = false then klCall KL f4 f5 i ++ [((f4 i, f5 i), 0, 0)] else klCall KL f4 f5 i
theorem klCall_length (KL : List ((ByteArray × ByteArray) × Int × Int)) (f4 f5 : Nat → ByteArray) : ∀ i, (klCall KL f4 f5 i).length ≤ KL.length + i
  | 0 => Nat.le_refl _
  | i + 1 => by
    have ih := klCall_length KL f4 f5 i
    unfold klCall
    split
    · simp; omega
    · omega

theorem joins_is {p c : ByteArray} {x : Bool} (hx : joins p c = x) (w : World) :
    Calls Try.prog 10 #[.string p, .string c] w fun e w' => e = .returned (.bool x) ∧ w' = w := by
  subst hx; exact joins_any p c w

end Go.Proofs.Qxb6619286a
