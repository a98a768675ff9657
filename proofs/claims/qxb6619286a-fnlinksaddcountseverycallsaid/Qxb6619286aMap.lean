import Derived.Test.Qxb6619286aBase
import Derived.Maps.OwnSet
import Derived.Maps.OwnOps
import Derived.DeepKeys4
import Derived.Laws.ResultCell
namespace Go.Proofs.Qxb6619286a
open Go.RowKit Go.Maps

/-! ### The key: two strings -/
theorem laidOut : laidOutB Try.prog = true := by kernel_rfl
theorem rowKey : (42 : TypeId) < Try.prog.types.size := of_decide_eq_true (by kernel_rfl)
theorem wideKey : (match Try.prog.underlying 42 with | some (.array _ _) | some (.struct _) => true | _ => false) = true := by kernel_rfl
theorem law : Keyed Try.prog 42 := Keyed.of_law (deep_law_laid laidOut (m := 3) (by omega) rowKey (by kernel_rfl) wideKey)
theorem cells42 : Try.prog.cellsOf 42 = 2 := by kernel_rfl
theorem cells9 : Try.prog.cellsOf 9 = 1 := by kernel_rfl
theorem keyType42 : Try.prog.keyType 42 = true := by kernel_rfl
theorem typesSize : ∃ d, Try.prog.types.size = d + 1 := ⟨Try.prog.types.size - 1, by have : (42 : Nat) < Try.prog.types.size := rowKey; omega⟩

/-- Both strings are no longer than Go's strings can be. -/
def OkKey (k : ByteArray × ByteArray) : Prop := k.1.size ≤ maxLen ∧ k.2.size ≤ maxLen
def kv (k : ByteArray × ByteArray) : Value := .agg #[.string k.1, .string k.2]

theorem key_some (k : ByteArray × ByteArray) (h : OkKey k) : ∃ l, keyOf Try.prog 42 (kv k) = some l := by
  obtain ⟨d, hd⟩ := typesSize
  have hf : (kv k).formed Try.prog 42 = true := by simp [kv, Value.formed, Try.underlying42, cells42]
  unfold keyOf
  rw [Try.underlying42]
  simp only [keyType42, hf, Bool.and_self, if_true, hd]
  simp [Program.keyLits, Try.underlying42, Try.underlying9, kv, Value.cells, cells42, cells9, h.1, h.2]
theorem kv_inj {a b : ByteArray × ByteArray} (h : kv a = kv b) : a = b := by
  unfold kv at h
  simp at h
  exact Prod.ext h.1 h.2

/-! ### The element: a pointer to a link of the call's own -/
def ptrElem : Value → Option (DataW Unit × List MemPlace)
  | .pointer none => some (.nil, [])
  | .pointer (some ⟨g, 0, none⟩) => some (.lit (.int .i64 g), [])
  | _ => Option.none
theorem ptrElem_nil {v : Value} {ps : List MemPlace} (h : ptrElem v = some (.nil, ps)) : v = .pointer none := by
  unfold ptrElem at h
  split at h
  · rfl
  · simp at h
  · cases h
theorem ptrElem_num {v : Value} {ps : List MemPlace} {g : Nat} (h : ptrElem v = some (.lit (.int .i64 g), ps)) : v = .pointer (some ⟨g, 0, none⟩) := by
  unfold ptrElem at h
  split at h
  · simp at h
  · simp at h
    obtain ⟨h, _⟩ := h
    simp only [Int.natCast_inj] at h
    rw [h]
  · cases h
theorem ptrElem_mk (g : Nat) : ptrElem (.pointer (some ⟨g, 0, none⟩)) = some (.lit (.int .i64 g), []) := rfl

theorem zero38 (w : World) : (zeroValue 38).run Try.prog w = .ok (.pointer none) w := by kernel_rfl

/-- Block g holds the link of key k. -/
def LinkAt (w : World) (g : Nat) (k : ByteArray × ByteArray) (c e : Int) : Prop := w.heap[g]? = some (.cells #[.string k.1, .string k.2, .int .i64 c, .int .i64 e] 40 (0, 0))

/-- Sameness of keys, as Go's '==' on their strings has it. -/
def eqK (a b : ByteArray × ByteArray) : Bool := a.1.toList == b.1.toList && a.2.toList == b.2.toList
theorem str_eq {x y : ByteArray} (h : x.toList = y.toList) : x = y := by
  rw [ByteArray.toList_eq, ByteArray.toList_eq] at h
  cases x; cases y
  simp only [ByteArray.mk.injEq] at h ⊢
  exact Array.toList_inj.mp h
theorem eqK_iff {a b : ByteArray × ByteArray} : eqK a b = true ↔ a = b := by
  unfold eqK
  rw [Bool.and_eq_true, beq_iff_eq, beq_iff_eq]
  constructor
  · rintro ⟨h1, h2⟩; exact Prod.ext (str_eq h1) (str_eq h2)
  · rintro rfl; exact ⟨rfl, rfl⟩
theorem eqK_self (a : ByteArray × ByteArray) : eqK a a = true := eqK_iff.2 rfl
theorem eqK_no {a b : ByteArray × ByteArray} (h : ¬ a = b) : eqK a b = false := by
  cases hh : eqK a b
  · rfl
  · exact absurd (eqK_iff.1 hh) h
def memK (ks : List (ByteArray × ByteArray)) (k : ByteArray × ByteArray) : Bool := ks.any (eqK k)
theorem memK_iff {ks : List (ByteArray × ByteArray)} {k : ByteArray × ByteArray} : memK ks k = true ↔ k ∈ ks := by
  unfold memK
  rw [List.any_eq_true]
  constructor
  · rintro ⟨x, hx, he⟩; rw [eqK_iff.1 he]; exact hx
  · intro h; exact ⟨k, h, eqK_self k⟩
theorem memK_yes {ks : List (ByteArray × ByteArray)} {k : ByteArray × ByteArray} (h : k ∈ ks) : memK ks k = true := memK_iff.2 h
theorem memK_no {ks : List (ByteArray × ByteArray)} {k : ByteArray × ByteArray} (h : ¬ k ∈ ks) : memK ks k = false := by
  cases hh : memK ks k
  · rfl
  · exact absurd (memK_iff.1 hh) h

def upd (C : ByteArray × ByteArray → Int) (k : ByteArray × ByteArray) (x : Int) : ByteArray × ByteArray → Int := fun k' => if eqK k' k = true then x else C k'
theorem upd_same (C : ByteArray × ByteArray → Int) (k : ByteArray × ByteArray) (x : Int) : upd C k x k = x := by unfold upd; rw [if_pos (eqK_self k)]
theorem upd_other (C : ByteArray × ByteArray → Int) {k a : ByteArray × ByteArray} (x : Int) (h : ¬ a = k) : upd C k x a = C a := by unfold upd; rw [if_neg (by rw [eqK_no h]; decide)]
theorem upd_upd (C : ByteArray × ByteArray → Int) (k : ByteArray × ByteArray) (x y : Int) : upd (upd C k x) k y = upd C k y := by
  funext a
  unfold upd
  split <;> rfl
def updN (G : ByteArray × ByteArray → Nat) (k : ByteArray × ByteArray) (x : Nat) : ByteArray × ByteArray → Nat := fun k' => if eqK k' k = true then x else G k'
theorem updN_same (G : ByteArray × ByteArray → Nat) (k : ByteArray × ByteArray) (x : Nat) : updN G k x k = x := by unfold updN; rw [if_pos (eqK_self k)]
theorem updN_other (G : ByteArray × ByteArray → Nat) {k a : ByteArray × ByteArray} (x : Nat) (h : ¬ a = k) : updN G k x a = G a := by unfold updN; rw [if_neg (by rw [eqK_no h]; decide)]
def ins (ks : List (ByteArray × ByteArray)) (k : ByteArray × ByteArray) : List (ByteArray × ByteArray) := if memK ks k = true then ks else ks ++ [k]
theorem mem_ins {ks : List (ByteArray × ByteArray)} {k k' : ByteArray × ByteArray} : k' ∈ ins ks k ↔ k' ∈ ks ∨ k' = k := by
  unfold ins
  split
  · rename_i h
    rw [memK_iff] at h
    constructor
    · exact Or.inl
    · rintro (h1 | rfl)
      · exact h1
      · exact h
  · simp
theorem ins_other {ks : List (ByteArray × ByteArray)} {k a : ByteArray × ByteArray} (h : ¬ a = k) : memK (ins ks k) a = memK ks a := by
  cases hh : memK ks a
  · refine memK_no fun hm => ?_
    rcases mem_ins.1 hm with hm | hm
    · rw [memK_yes hm] at hh; cases hh
    · exact h hm
  · exact memK_yes (mem_ins.2 (Or.inl (memK_iff.1 hh)))
theorem nodup_ins {ks : List (ByteArray × ByteArray)} {k : ByteArray × ByteArray} (h : ks.Nodup) : (ins ks k).Nodup := by
  unfold ins
  split
  · exact h
  · rename_i hk
    rw [memK_iff] at hk
    rw [List.nodup_append]
    refine ⟨h, by simp, ?_⟩
    intro a ha b hb
    simp at hb
    subst hb
    rintro rfl
    exact hk ha
theorem length_ins (ks : List (ByteArray × ByteArray)) (k : ByteArray × ByteArray) : (ins ks k).length = if memK ks k = true then ks.length else ks.length + 1 := by
  unfold ins
  split <;> simp

/-- Block B is a map of at most n entries, its keys the ks, at each a pointer to that key's link. -/
def Links (w : World) (B n : Nat) (ks : List (ByteArray × ByteArray)) (C E : ByteArray × ByteArray → Int) : Prop :=
  ∃ (D : DataW Unit) (G : ByteArray × ByteArray → Nat), w.ownsMap Try.prog 42 ptrElem B n D ∧ Maps.size D = ks.length ∧
    (∀ k l, keyOf Try.prog 42 (kv k) = some l → D.atKey l DataW.nil = (if memK ks k = true then DataW.lit (.int .i64 (G k)) else DataW.nil) ∧ Maps.has D l = memK ks k) ∧
    (∀ k ∈ ks, OkKey k ∧ B < G k ∧ LinkAt w (G k) k (C k) (E k)) ∧ (∀ a ∈ ks, ∀ b ∈ ks, G a = G b → a = b) ∧ ks.Nodup

theorem Links.made (w : World) (C E : ByteArray × ByteArray → Int) : Links (w.alloc (.map #[] 0)) w.heap.size 0 [] C E :=
  ⟨.map [], fun _ => 0, World.ownsMap_made _ _ _ _, rfl, fun k l _ => ⟨rfl, rfl⟩, by simp, by simp, List.nodup_nil⟩

theorem heap_lt {w : World} {g : Nat} {o : Obj} (h : w.heap[g]? = some o) : g < w.heap.size := (Array.getElem?_eq_some_iff.1 h).1

theorem Links.keep {w w' : World} {B n : Nat} {ks : List (ByteArray × ByteArray)} {C E : ByteArray × ByteArray → Int} (h : Links w B n ks C E) (hb : Below w.heap.size w w') : Links w' B n ks C E := by
  obtain ⟨D, G, h1, h2, h3, h4, h5, h6⟩ := h
  refine ⟨D, G, ?_, h2, h3, fun k hk => ⟨(h4 k hk).1, (h4 k hk).2.1, ?_⟩, h5, h6⟩
  · obtain ⟨es, cl, hh, r⟩ := h1
    exact ⟨es, cl, (hb.block B (heap_lt hh)).trans hh, r⟩
  · have := (h4 k hk).2.2
    unfold LinkAt at *
    rw [hb.block _ (heap_lt this)]; exact this
theorem Links.lt {w : World} {B n : Nat} {ks : List (ByteArray × ByteArray)} {C E : ByteArray × ByteArray → Int} (h : Links w B n ks C E) : B < w.heap.size := by
  obtain ⟨D, G, h1, _⟩ := h
  exact h1.lt
theorem Links.nodup {w : World} {B n : Nat} {ks : List (ByteArray × ByteArray)} {C E : ByteArray × ByteArray → Int} (h : Links w B n ks C E) : ks.Nodup := by
  obtain ⟨D, G, h1, h2, h3, h4, h5, h6⟩ := h
  exact h6

/-- Block g is the link of the key k, which may be written: the map stays what it is. -/
def Back (w : World) (B n : Nat) (ks : List (ByteArray × ByteArray)) (C E : ByteArray × ByteArray → Int) (k : ByteArray × ByteArray) (g : Nat) : Prop :=
  LinkAt w g k (C k) (E k) ∧ B < g ∧ ∀ w' c e, LinkAt w' g k c e → (∀ i, i ≠ g → i < w.heap.size → w'.heap[i]? = w.heap[i]?) → Links w' B n ks (upd C k c) (upd E k e)

theorem back_of {w : World} {B n : Nat} {ks : List (ByteArray × ByteArray)} {C E : ByteArray × ByteArray → Int} {D : DataW Unit} {G : ByteArray × ByteArray → Nat} (h1 : w.ownsMap Try.prog 42 ptrElem B n D) (h2 : Maps.size D = ks.length)
    (h3 : ∀ k l, keyOf Try.prog 42 (kv k) = some l → D.atKey l DataW.nil = (if memK ks k = true then DataW.lit (.int .i64 (G k)) else DataW.nil) ∧ Maps.has D l = memK ks k)
    (h4 : ∀ k ∈ ks, OkKey k ∧ B < G k ∧ LinkAt w (G k) k (C k) (E k)) (h5 : ∀ a ∈ ks, ∀ b ∈ ks, G a = G b → a = b) (h6 : ks.Nodup) {k : ByteArray × ByteArray} (hm : k ∈ ks) : Back w B n ks C E k (G k) := by
  refine ⟨(h4 k hm).2.2, (h4 k hm).2.1, ?_⟩
  intro w' c e hL hw
  refine ⟨D, G, ?_, h2, h3, fun a ha => ⟨(h4 a ha).1, (h4 a ha).2.1, ?_⟩, h5, h6⟩
  · obtain ⟨es, cl, hh, r⟩ := h1
    exact ⟨es, cl, (hw B (by have := (h4 k hm).2.1; omega) (heap_lt hh)).trans hh, r⟩
  · by_cases hak : a = k
    · subst hak; rw [upd_same, upd_same]; exact hL
    · rw [upd_other _ _ hak, upd_other _ _ hak]
      have := (h4 a ha).2.2
      unfold LinkAt at *
      rw [hw _ (fun hg => hak (h5 a ha k hm hg)) (heap_lt this)]; exact this

/-- 'l[k]': no entry, or the pointer to the link, which may then be written. -/
theorem Links.look {w : World} {B n : Nat} {ks : List (ByteArray × ByteArray)} {C E : ByteArray × ByteArray → Int} (h : Links w B n ks C E) (k : ByteArray × ByteArray) (hk : OkKey k) :
    (¬ k ∈ ks ∧ (Instr.lookup 30 (.map (some B)) (kv k) false).run Try.prog w = .ok (.pointer none) w) ∨
    (k ∈ ks ∧ ∃ g, (Instr.lookup 30 (.map (some B)) (kv k) false).run Try.prog w = .ok (.pointer (some ⟨g, 0, none⟩)) w ∧ Back w B n ks C E k g) := by
  obtain ⟨D, G, h1, h2, h3, h4, h5, h6⟩ := h
  obtain ⟨l, hl⟩ := key_some k hk
  obtain ⟨v, ps, hrun, hv⟩ := h1.lookup law Try.underlying30 (zero38 w) (zd := .nil) (zp := []) rfl hl
  rw [(h3 k l hl).1] at hv
  by_cases hm : k ∈ ks
  · rw [if_pos (memK_yes hm)] at hv
    rw [ptrElem_num hv] at hrun
    exact Or.inr ⟨hm, G k, hrun, back_of h1 h2 h3 h4 h5 h6 hm⟩
  · rw [if_neg (by rw [memK_no hm]; decide)] at hv
    rw [ptrElem_nil hv] at hrun
    exact Or.inl ⟨hm, hrun⟩

/-- 'l[k] = &link{..}': the link lies in the last block. -/
theorem Links.put {w : World} {B n : Nat} {ks : List (ByteArray × ByteArray)} {C E : ByteArray × ByteArray → Int} (h : Links w B n ks C E) (k : ByteArray × ByteArray) (hk : OkKey k) (hn : n < maxLen) (c e : Int) :
    ∃ w', (Instr.mapUpdate 30 (.map (some B)) (kv k) (.pointer (some ⟨w.heap.size, 0, none⟩))).run Try.prog (w.alloc (.cells #[.string k.1, .string k.2, .int .i64 c, .int .i64 e] 40)) = .ok () w' ∧
      Links w' B (n + 1) (ins ks k) (upd C k c) (upd E k e) ∧ Back w' B (n + 1) (ins ks k) (upd C k c) (upd E k e) k w.heap.size ∧ (w.alloc (.cells #[.string k.1, .string k.2, .int .i64 c, .int .i64 e] 40)).grownBy w' (some B) := by
  obtain ⟨D, G, h1, h2, h3, h4, h5, h6⟩ := h
  obtain ⟨l, hl⟩ := key_some k hk
  have hlt := h1.lt
  have h1' := h1.alloc (.cells #[.string k.1, .string k.2, .int .i64 c, .int .i64 e] 40)
  have tidy := h1.tidy law
  obtain ⟨w', hrun, hown, hgrow⟩ := h1'.update law Try.underlying30 hn hl (ptrElem_mk w.heap.size)
  have hnew : w'.heap[w.heap.size]? = some (.cells #[.string k.1, .string k.2, .int .i64 c, .int .i64 e] 40 (0, 0)) := by
    rw [hgrow.block w.heap.size (by simp) (by intro hh; injection hh with hh; omega)]
    show (w.heap.push _)[w.heap.size]? = _
    simp
  have Q : (Maps.size (D.put l (DataW.lit (.int .i64 w.heap.size))) = (ins ks k).length) ∧ (∀ a l', keyOf Try.prog 42 (kv a) = some l' → (D.put l (DataW.lit (.int .i64 w.heap.size))).atKey l' DataW.nil = (if memK (ins ks k) a = true then DataW.lit (.int .i64 (updN G k w.heap.size a)) else DataW.nil) ∧ Maps.has (D.put l (DataW.lit (.int .i64 w.heap.size))) l' = memK (ins ks k) a) ∧ (∀ a ∈ ins ks k, OkKey a ∧ B < updN G k w.heap.size a ∧ LinkAt w' (updN G k w.heap.size a) a (upd C k c a) (upd E k e a)) ∧ (∀ a ∈ ins ks k, ∀ b ∈ ins ks k, updN G k w.heap.size a = updN G k w.heap.size b → a = b) := by
    refine ⟨?_, ?_, ?_, ?_⟩
    · rw [Maps.size_put tidy, (h3 k l hl).2, length_ins, h2]
    · intro a l' hl'
      by_cases hak : a = k
      · subst hak
        have : l' = l := by rw [hl] at hl'; injection hl' with hl'; exact hl'.symm
        subst this
        refine ⟨?_, ?_⟩
        · rw [Maps.atKey_put_same tidy.isMap (law.key hl), if_pos (memK_yes (mem_ins.2 (Or.inr rfl))), updN_same]
        · rw [Maps.has_put_same tidy.isMap (law.key hl), memK_yes (mem_ins.2 (Or.inr rfl))]
      · have hne : l' ≠ l := by
          rintro rfl
          exact hak (kv_inj (law.inj hl' hl))
        refine ⟨?_, ?_⟩
        · rw [Maps.atKey_put_other hne, (h3 a l' hl').1, ins_other hak, updN_other _ _ hak]
        · rw [Maps.has_put_other hne, (h3 a l' hl').2, ins_other hak]
    · intro a ha
      by_cases hak : a = k
      · subst hak
        rw [updN_same, upd_same, upd_same]
        exact ⟨hk, hlt, hnew⟩
      · rcases mem_ins.1 ha with hm | hm
        · rw [updN_other _ _ hak, upd_other _ _ hak, upd_other _ _ hak]
          refine ⟨(h4 a hm).1, (h4 a hm).2.1, ?_⟩
          have hL := (h4 a hm).2.2
          have hgl := (h4 a hm).2.1
          unfold LinkAt at *
          have hlt2 := heap_lt hL
          rw [hgrow.block _ (by simp; omega) (by intro hh; injection hh with hh; omega), Below.heap_alloc _ _ _ hlt2]
          exact hL
        · exact absurd hm hak
    · intro a ha b hb
      have big : ∀ x ∈ ks, G x < w.heap.size := fun x hx => heap_lt (h4 x hx).2.2
      by_cases hak : a = k
      · by_cases hbk : b = k
        · intro _; rw [hak, hbk]
        · rcases mem_ins.1 hb with hm | hm
          · rw [hak, updN_same, updN_other _ _ hbk]; intro hh; have := big b hm; omega
          · exact absurd hm hbk
      · rcases mem_ins.1 ha with hm | hm
        · by_cases hbk : b = k
          · rw [updN_other _ _ hak, hbk, updN_same]; intro hh; have := big a hm; omega
          · rcases mem_ins.1 hb with hm2 | hm2
            · rw [updN_other _ _ hak, updN_other _ _ hbk]; exact h5 a hm b hm2
            · exact absurd hm2 hbk
        · exact absurd hm hak
  obtain ⟨q2, q3, q4, q5⟩ := Q
  have BK := back_of hown q2 q3 q4 q5 (nodup_ins h6) (mem_ins.2 (Or.inr rfl))
  rw [updN_same] at BK
  exact ⟨w', hrun, ⟨_, updN G k w.heap.size, hown, q2, q3, q4, q5, nodup_ins h6⟩, BK, hgrow⟩

/-- 'len(l)' -/
theorem Links.len {w : World} {B n : Nat} {ks : List (ByteArray × ByteArray)} {C E : ByteArray × ByteArray → Int} (h : Links w B n ks C E) (ty : TypeId) :
    (Builtin.len_ #[30] ty #[.map (some B)]).run Try.prog w = .ok (.int .i64 ks.length) w := by
  obtain ⟨D, G, h1, h2, _⟩ := h
  rw [h1.len Try.underlying30, h2]

end Go.Proofs.Qxb6619286a
