import Derived.Test.Qxb6619296aFns
namespace Go.Proofs.Qxb6619296a
open Go.RowKit

theorem info9 : (Try.prog.info? 9).map (fun i => (i.zero, i.size, i.bytes)) = some (some (.string ByteArray.empty), 1, 16) := by kernel_rfl

/-- From the opened argument's cells. -/
theorem Row.of_cells {w : World} {x : Addr} {n : Nat} {zs : List ByteArray} (hn : n ≤ zs.length) (hc : ∀ i, i < zs.length → w.cell? (x.add i) = some (.string (zs.getD i ByteArray.empty))) :
    Row w (some x) n (fun i => zs.getD i ByteArray.empty) := by
  intro h
  obtain ⟨b, off, spot⟩ := x
  have hspot : spot = none := by simpa [Addr.add] using World.cell?_spot (hc 0 (by omega))
  subst hspot
  refine ⟨b, off, rfl, fun i hi => ?_⟩
  have e : (⟨b, off, none⟩ : Addr).add i = ⟨b, off + i, none⟩ := by
    by_cases h0 : i = 0
    · subst h0; simp [Addr.add]
    · simp [Addr.add, h0]
  rw [← e]
  exact hc i (by omega)

/-- Block B holds N strings, f 0, f 1, ..; none of its cells is frozen. -/
def Made (w : World) (B N : Nat) (f : Nat → ByteArray) : Prop :=
  ∃ cur : Array Value, w.heap[B]? = some (.cells cur 9 (0, 0)) ∧ cur.size = N ∧ ∀ i, i < N → cur[i]? = some (.string (f i))

theorem Made.of_make {w' : World} {base B n : Nat} (h : w'.ownsRow base 9 1 (.slice (some ⟨B, 0, none⟩) n n) n (madeCells #[Value.string ByteArray.empty] n).toList) :
    Made w' B n (fun _ => ByteArray.empty) := by
  obtain ⟨_, h2 | ⟨g, cap, cur, hv, _, hh, _, _, hsz, ht⟩⟩ := h
  · obtain ⟨h2, rfl⟩ := h2
    cases h2
  · injection hv with h1 h2 h3
    injection h1 with h1
    injection h1 with h1
    subst h1 h3
    refine ⟨cur, hh, by omega, fun i hi => ?_⟩
    rw [toList_madeCells_one, Nat.mul_one] at ht
    have : cur.toList[i]? = some (.string ByteArray.empty) := by
      have h4 : (cur.toList.take n)[i]? = some (.string ByteArray.empty) := by rw [ht, List.getElem?_replicate, if_pos hi]
      rwa [List.getElem?_take_of_lt hi] at h4
    simpa using this

theorem Made.cell {w : World} {B N : Nat} {f : Nat → ByteArray} (h : Made w B N f) {i : Nat} (hi : i < N) : w.cell? ⟨B, i, none⟩ = some (.string (f i)) := by
  obtain ⟨cur, hh, hs, hc⟩ := h
  simp [World.cell?, hh, hc i hi]

theorem Made.frozen {w : World} {B N : Nat} {f : Nat → ByteArray} (h : Made w B N f) (i : Nat) : w.frozen? ⟨B, i, none⟩ = false := by
  obtain ⟨cur, hh, hs, hc⟩ := h
  simp [World.frozen?, hh]

theorem Made.row {w : World} {B N : Nat} {f : Nat → ByteArray} (h : Made w B N f) : Row w (some ⟨B, 0, none⟩) N f := by
  intro _
  exact ⟨B, 0, rfl, fun i hi => by rw [Nat.zero_add]; exact h.cell hi⟩

theorem Made.lt {w : World} {B N : Nat} {f : Nat → ByteArray} (h : Made w B N f) : B < w.heap.size := by
  obtain ⟨cur, hh, _⟩ := h
  by_cases hlt : B < w.heap.size
  · exact hlt
  · exfalso
    have : w.heap[B]? = none := by simp; omega
    rw [this] at hh; cases hh

theorem Made.keep {w w' : World} {B N : Nat} {f : Nat → ByteArray} (h : Made w B N f) (hb : Below w.heap.size w w') : Made w' B N f := by
  have hlt := h.lt
  obtain ⟨cur, hh, r⟩ := h
  exact ⟨cur, by rw [hb.block B hlt]; exact hh, r⟩

theorem Made.set {w : World} {B N : Nat} {f : Nat → ByteArray} (h : Made w B N f) {j : Nat} (hj : j < N) (s : ByteArray) :
    Made (w.setCell ⟨B, j, none⟩ (.string s)) B N (fun i => if i = j then s else f i) := by
  obtain ⟨cur, hh, hs, hc⟩ := h
  refine ⟨cur.set! j (.string s), ?_, by simpa using hs, fun i hi => ?_⟩
  · simp [World.setCell, Array.getElem?_modify, hh]
  · by_cases hij : i = j
    · subst hij; simp [hs, hj]
    · simp only [if_neg hij]
      rw [← hc i hi]
      simp only [Array.set!_eq_setIfInBounds]
      rw [Array.getElem?_setIfInBounds_ne (by omega)]

theorem Made.congr {w : World} {B N : Nat} {f g : Nat → ByteArray} (h : Made w B N f) (hg : ∀ i, i < N → f i = g i) : Made w B N g := by
  obtain ⟨cur, hh, hs, hc⟩ := h
  exact ⟨cur, hh, hs, fun i hi => by rw [hc i hi, hg i hi]⟩

/-- The first k of c, then empty strings. -/
def part (c : Nat → ByteArray) (k : Nat) : Nat → ByteArray := fun j => if j < k then c j else ByteArray.empty
/-- n of f, then g. -/
def join (n : Nat) (f g : Nat → ByteArray) : Nat → ByteArray := fun j => if j < n then f j else g (j - n)

theorem Made.next {w : World} {B N k : Nat} {c : Nat → ByteArray} (h : Made w B N (part c k)) (hk : k < N) {s : ByteArray} (hs : s = c k) : Made (w.setCell ⟨B, k, none⟩ (.string s)) B N (part c (k + 1)) := by
  refine (h.set hk s).congr fun i _ => ?_
  unfold part
  by_cases h1 : i = k
  · subst h1; rw [if_pos rfl, if_pos (by omega), hs]
  · rw [if_neg h1]
    by_cases h2 : i < k
    · rw [if_pos h2, if_pos (by omega)]
    · rw [if_neg h2, if_neg (by omega)]
theorem Made.whole {w : World} {B N : Nat} {c : Nat → ByteArray} (h : Made w B N (part c N)) : Made w B N c :=
  h.congr fun i hi => by unfold part; rw [if_pos hi]
theorem Made.none {w : World} {B N : Nat} (c : Nat → ByteArray) (h : Made w B N (fun _ => ByteArray.empty)) : Made w B N (part c 0) :=
  h.congr fun i _ => by unfold part; rw [if_neg (by omega)]
theorem join_lo {n k : Nat} (f g : Nat → ByteArray) (h : k < n) : f k = join n f g k := by unfold join; rw [if_pos h]
theorem join_hi (n k : Nat) (f g : Nat → ByteArray) : g k = join n f g (n + k) := by unfold join; rw [if_neg (by omega), Nat.add_sub_cancel_left]

end Go.Proofs.Qxb6619296a
