import Derived.Test.Qxb6619286aLoop7
namespace Go.Proofs.Qxb6619286a

/-! ### The plain law: the listed keys are the map's keys, with the counts -/

theorem pref_is {f0 f1 : Nat → ByteArray} {z2 z3 : Nat → Int} {np : Nat} {x : (ByteArray × ByteArray) × Int × Int} : ∀ {i : Nat}, x ∈ klPref f0 f1 z2 z3 np i → ∃ a, a < i ∧ later f0 f1 np a = false ∧ x = ((f0 a, f1 a), z2 a, z3 a)
  | 0, h => by cases h
  | i + 1, h => by
    unfold klPref at h
    split at h
    · obtain ⟨a, h1, h2, h3⟩ := pref_is h
      exact ⟨a, by omega, h2, h3⟩
    · rename_i hl
      rcases List.mem_append.1 h with h | h
      · obtain ⟨a, h1, h2, h3⟩ := pref_is h
        exact ⟨a, by omega, h2, h3⟩
      · rw [List.mem_singleton] at h
        exact ⟨i, by omega, by simpa using hl, h⟩

theorem pref_has {f0 f1 : Nat → ByteArray} {z2 z3 : Nat → Int} {np a : Nat} (hl : later f0 f1 np a = false) : ∀ {i : Nat}, a < i → ((f0 a, f1 a), z2 a, z3 a) ∈ klPref f0 f1 z2 z3 np i
  | 0, h => by omega
  | i + 1, h => by
    unfold klPref
    by_cases ha : a = i
    · subst ha
      rw [if_neg (by rw [hl]; decide)]
      exact List.mem_append.2 (Or.inr (by simp))
    · have := pref_has hl (z2 := z2) (z3 := z3) (i := i) (by omega)
      split
      · exact this
      · exact List.mem_append.2 (Or.inl this)

/-- The last entry of a pair. -/
theorem last_of {f0 f1 : Nat → ByteArray} {np : Nat} : ∀ (m a : Nat), np - a ≤ m → a < np → ∃ b, b < np ∧ (f0 b, f1 b) = (f0 a, f1 a) ∧ later f0 f1 np b = false := by
  intro m
  induction m with
  | zero => intro a h1 h2; omega
  | succ m ih =>
    intro a h1 h2
    cases hl : later f0 f1 np a
    · exact ⟨a, h2, rfl, hl⟩
    · unfold later at hl
      rw [List.any_eq_true] at hl
      obtain ⟨j, hj, hb⟩ := hl
      rw [Bool.and_eq_true, decide_eq_true_eq] at hb
      have hjn := List.mem_range.1 hj
      obtain ⟨b, b1, b2, b3⟩ := ih j (by omega) hjn
      exact ⟨b, b1, b2.trans (eqK_iff.1 hb.2), b3⟩

theorem put_mem {f0 f1 : Nat → ByteArray} {k : ByteArray × ByteArray} : ∀ {i : Nat}, k ∈ ksPut f0 f1 i ↔ ∃ a, a < i ∧ k = (f0 a, f1 a)
  | 0 => ⟨fun h => (by cases h), fun ⟨a, h, _⟩ => (by omega)⟩
  | i + 1 => by
    unfold ksPut
    rw [mem_ins, put_mem]
    constructor
    · rintro (⟨a, h1, h2⟩ | h)
      · exact ⟨a, by omega, h2⟩
      · exact ⟨i, by omega, h⟩
    · rintro ⟨a, h1, h2⟩
      by_cases ha : a = i
      · subst ha; exact Or.inr h2
      · exact Or.inl ⟨a, by omega, h2⟩

theorem put_val {f0 f1 : Nat → ByteArray} (z : Nat → Int) {a : Nat} : ∀ {i : Nat}, a < i → (∀ j, a < j → j < i → ¬ (f0 j, f1 j) = (f0 a, f1 a)) → vPut f0 f1 z i (f0 a, f1 a) = z a
  | 0, h, _ => by omega
  | i + 1, h, hn => by
    unfold vPut
    by_cases ha : a = i
    · subst ha; rw [upd_same]
    · rw [upd_other _ _ (fun e => hn i (by omega) (by omega) e.symm)]
      exact put_val z (by omega) (fun j h1 h2 => hn j h1 (by omega))

theorem later_apart {f0 f1 : Nat → ByteArray} {np a : Nat} (hl : later f0 f1 np a = false) (j : Nat) (h1 : a < j) (h2 : j < np) : ¬ (f0 j, f1 j) = (f0 a, f1 a) := by
  intro e
  rw [later_yes h1 h2 (eqK_iff.2 e)] at hl
  cases hl

/-- keys -/
def keysOf (KL : List ((ByteArray × ByteArray) × Int × Int)) : List (ByteArray × ByteArray) := KL.map (·.1)
theorem listed_iff {KL : List ((ByteArray × ByteArray) × Int × Int)} {k : ByteArray × ByteArray} : listed KL k = true ↔ k ∈ keysOf KL := by
  unfold listed keysOf
  rw [List.any_eq_true, List.mem_map]
  constructor
  · rintro ⟨x, hx, h⟩; exact ⟨x, hx, eqK_iff.1 h⟩
  · rintro ⟨x, hx, h⟩; exact ⟨x, hx, eqK_iff.2 h⟩

theorem pref_keys {f0 f1 : Nat → ByteArray} {z2 z3 : Nat → Int} {np : Nat} {k : ByteArray × ByteArray} : k ∈ keysOf (klPref f0 f1 z2 z3 np np) ↔ k ∈ ksPut f0 f1 np := by
  unfold keysOf
  rw [put_mem, List.mem_map]
  constructor
  · rintro ⟨x, hx, rfl⟩
    obtain ⟨a, h1, _, h3⟩ := pref_is hx
    exact ⟨a, h1, by rw [h3]⟩
  · rintro ⟨a, h1, rfl⟩
    obtain ⟨b, b1, b2, b3⟩ := last_of (f0 := f0) (f1 := f1) (np - a) a (Nat.le_refl _) h1
    exact ⟨_, pref_has b3 b1, b2⟩

theorem pref_nodup {f0 f1 : Nat → ByteArray} {z2 z3 : Nat → Int} {np : Nat} : ∀ {i : Nat}, i ≤ np → (keysOf (klPref f0 f1 z2 z3 np i)).Nodup
  | 0, _ => List.nodup_nil
  | i + 1, h => by
    have ih := pref_nodup (f0 := f0) (f1 := f1) (z2 := z2) (z3 := z3) (np := np) (i := i) (by omega)
    unfold klPref
    split
    · exact ih
    · unfold keysOf at *
      rw [List.map_append, List.nodup_append]
      refine ⟨ih, by simp, ?_⟩
      intro a ha b hb
      simp at hb
      subst hb
      rintro rfl
      obtain ⟨x, hx, hxk⟩ := List.mem_map.1 ha
      obtain ⟨c, h1, h2, h3⟩ := pref_is hx
      rw [h3] at hxk
      exact later_apart h2 i h1 (by omega) hxk.symm

theorem pref_vals {f0 f1 : Nat → ByteArray} {z2 z3 : Nat → Int} {np : Nat} {x : (ByteArray × ByteArray) × Int × Int} (h : x ∈ klPref f0 f1 z2 z3 np np) : x.2.1 = vPut f0 f1 z2 np x.1 ∧ x.2.2 = vPut f0 f1 z3 np x.1 := by
  obtain ⟨a, h1, h2, rfl⟩ := pref_is h
  exact ⟨(put_val z2 h1 (later_apart h2)).symm, (put_val z3 h1 (later_apart h2)).symm⟩

/-- What holds of the listed keys behind i of the calls. -/
structure Good (KL : List ((ByteArray × ByteArray) × Int × Int)) (ks0 ks : List (ByteArray × ByteArray)) (C E : ByteArray × ByteArray → Int) : Prop where
  mem : ∀ k, k ∈ keysOf KL ↔ k ∈ ks
  sub : ∀ k, k ∈ ks0 → k ∈ ks
  nodup : (keysOf KL).Nodup
  vals : ∀ x ∈ KL, x.2.1 = C x.1 ∧ x.2.2 = E x.1

theorem good_call {KL : List ((ByteArray × ByteArray) × Int × Int)} {ks : List (ByteArray × ByteArray)} {C E : ByteArray × ByteArray → Int} (hz : Zero ks C E) (h : Good KL ks ks C E) (f4 f5 : Nat → ByteArray) : ∀ i, Good (klCall KL f4 f5 i) ks (ksCall ks f4 f5 i) C E
  | 0 => h
  | i + 1 => by
    have ih := good_call hz h f4 f5 i
    have hl := @listed_iff (klCall KL f4 f5 i) (f4 i, f5 i)
    unfold klCall ksCall ksAdd
    by_cases hj : joins (f4 i) (f5 i) = true
    · rw [if_pos hj]
      by_cases hL : listed (klCall KL f4 f5 i) (f4 i, f5 i) = true
      · rw [if_neg (by rw [hL]; simp)]
        have hm := (ih.mem _).1 (hl.1 hL)
        have e : ins (ksCall ks f4 f5 i) (f4 i, f5 i) = ksCall ks f4 f5 i := by unfold ins; rw [if_pos (memK_yes hm)]
        rw [e]
        exact ih
      · have hn : ¬ (f4 i, f5 i) ∈ keysOf (klCall KL f4 f5 i) := fun hm => hL (hl.2 hm)
        rw [Bool.not_eq_true] at hL
        rw [if_pos ⟨hj, hL⟩]
        refine ⟨?_, ?_, ?_, ?_⟩
        · intro k
          rw [mem_ins, ← ih.mem k]
          unfold keysOf
          rw [List.map_append, List.mem_append]
          simp
        · intro k hk
          exact mem_ins.2 (Or.inl (ih.sub k hk))
        · unfold keysOf at *
          rw [List.map_append, List.nodup_append]
          refine ⟨ih.nodup, by simp, ?_⟩
          intro a ha b hb
          simp at hb
          subst hb
          rintro rfl
          exact hn ha
        · intro x hx
          rcases List.mem_append.1 hx with hx | hx
          · exact ih.vals x hx
          · rw [List.mem_singleton] at hx
            subst hx
            have h0 := hz (f4 i, f5 i) (fun hm => hn ((ih.mem _).2 (ih.sub _ hm)))
            exact ⟨h0.1.symm, h0.2.symm⟩
    · rw [if_neg hj, if_neg (fun hh => hj hh.1)]
      exact ih

theorem call_cnt (C : ByteArray × ByteArray → Int) (f4 f5 : Nat → ByteArray) (k : ByteArray × ByteArray) : ∀ j, cCall C f4 f5 j k = cntC (C k) k f4 f5 j
  | 0 => rfl
  | j + 1 => by
    have ih := call_cnt C f4 f5 k j
    unfold cCall cAdd cntC
    by_cases hj : joins (f4 j) (f5 j) = true
    · rw [if_pos hj]
      by_cases hk : k = (f4 j, f5 j)
      · rw [← hk, upd_same, if_pos ⟨hj, eqK_self k⟩, ih]
      · rw [upd_other _ _ hk, if_neg (fun hh => hk (eqK_iff.1 hh.2).symm), ih]
    · rw [if_neg hj, if_neg (fun hh => hj hh.1), ih]

theorem call_err (E : ByteArray × ByteArray → Int) (f4 f5 : Nat → ByteArray) (b6 : Nat → Bool) (k : ByteArray × ByteArray) : ∀ j, eCall E f4 f5 b6 j k = cntE (E k) k f4 f5 b6 j
  | 0 => rfl
  | j + 1 => by
    have ih := call_err E f4 f5 b6 k j
    unfold eCall eAdd cntE
    by_cases hj : joins (f4 j) (f5 j) = true
    · rw [if_pos hj]
      by_cases hk : k = (f4 j, f5 j)
      · rw [← hk, upd_same, if_pos ⟨hj, eqK_self k⟩, ih]
      · rw [upd_other _ _ hk, if_neg (fun hh => hk (eqK_iff.1 hh.2).symm), ih]
    · rw [if_neg hj, if_neg (fun hh => hj hh.1), ih]

theorem len_le {l : List (ByteArray × ByteArray)} : ∀ {m : List (ByteArray × ByteArray)}, l.Nodup → (∀ k ∈ l, k ∈ m) → l.length ≤ m.length := by
  induction l with
  | nil => intro m _ _; exact Nat.zero_le _
  | cons a l ih =>
    intro m hn hs
    obtain ⟨h1, h2⟩ := List.nodup_cons.1 hn
    obtain ⟨s, t, rfl⟩ := List.append_of_mem (hs a (by simp))
    have := ih (m := s ++ t) h2 (fun k hk => by
      have hm := hs k (by simp [hk])
      rw [List.mem_append, List.mem_cons] at hm
      rw [List.mem_append]
      rcases hm with hm | hm | hm
      · exact Or.inl hm
      · subst hm; exact absurd hk h1
      · exact Or.inr hm)
    simp at this ⊢
    omega
theorem len_eq {l m : List (ByteArray × ByteArray)} (h1 : l.Nodup) (h2 : m.Nodup) (h : ∀ k, k ∈ l ↔ k ∈ m) : l.length = m.length :=
  Nat.le_antisymm (len_le h1 fun k hk => (h k).1 hk) (len_le h2 fun k hk => (h k).2 hk)

theorem Links.ok {w : World} {B n : Nat} {ks : List (ByteArray × ByteArray)} {C E : ByteArray × ByteArray → Int} (h : Links w B n ks C E) (k : ByteArray × ByteArray) (hk : k ∈ ks) : OkKey k := by
  obtain ⟨D, G, h1, h2, h3, h4, _⟩ := h
  exact (h4 k hk).1

/-- ████ The law, in plain words. -/
theorem the_law (f0 f1 : Nat → ByteArray) (z2 z3 : Nat → Int) (f4 f5 : Nat → ByteArray) (b6 : Nat → Bool) (np ns : Nat) {w : World} {B n : Nat}
    (hL : Links w B n (ksCall (ksPut f0 f1 np) f4 f5 ns) (cCall (vPut f0 f1 z2 np) f4 f5 ns) (eCall (vPut f0 f1 z3 np) f4 f5 b6 ns)) :
    (ksCall (ksPut f0 f1 np) f4 f5 ns).length = (klCall (klPref f0 f1 z2 z3 np np) f4 f5 ns).length ∧
    Told (ksCall (ksPut f0 f1 np) f4 f5 ns) (cCall (vPut f0 f1 z2 np) f4 f5 ns) (eCall (vPut f0 f1 z3 np) f4 f5 b6 ns) (klCall (klPref f0 f1 z2 z3 np np) f4 f5 ns) f4 f5 b6 ns := by
  have G0 : Good (klPref f0 f1 z2 z3 np np) (ksPut f0 f1 np) (ksPut f0 f1 np) (vPut f0 f1 z2 np) (vPut f0 f1 z3 np) :=
    ⟨fun _ => pref_keys, fun _ h => h, pref_nodup (Nat.le_refl _), fun _ h => pref_vals h⟩
  have G := good_call (zero_put f0 f1 z2 z3 np) G0 f4 f5 ns
  refine ⟨?_, ?_⟩
  · rw [← len_eq G.nodup hL.nodup G.mem]
    unfold keysOf
    simp
  · intro k hk
    have hx := kAt_mem hk
    have hm : (kAt (klCall (klPref f0 f1 z2 z3 np np) f4 f5 ns) k).1 ∈ ksCall (ksPut f0 f1 np) f4 f5 ns := (G.mem _).1 (List.mem_map.2 ⟨_, hx, rfl⟩)
    obtain ⟨v1, v2⟩ := G.vals _ hx
    refine ⟨hL.ok _ hm, hm, ?_, ?_⟩
    · rw [call_cnt, v1]
    · rw [call_err, v2]
end Go.Proofs.Qxb6619286a
