/- Plain laws on lists of byte strings: the union of two sorted lists; a sorted list compacted. No Go in sight. -/
import Derived.Lib.SlicesCompact
namespace Go.Proofs.UnionMath
set_option linter.unusedVariables false
set_option linter.unusedSimpArgs false

abbrev S := List UInt8

theorem le_of_lt {x y : S} (h : x < y) : x ≤ y := fun h' => List.lt_irrefl x (List.lt_trans h h')
theorem lt_of_le_ne {x y : S} (h : x ≤ y) (hne : x ≠ y) : x < y := by
  rcases Classical.em (x < y) with hlt | hnlt
  · exact hlt
  · exact absurd (List.le_antisymm h hnlt) hne
theorem lt_of_lt_of_le {x y z : S} (h : x < y) (h' : y ≤ z) : x < z := by
  rcases Classical.em (y = z) with rfl | hne
  · exact h
  · exact List.lt_trans h (lt_of_le_ne h' hne)

/-- the union of two sorted lists, as the text merges them -/
def mg : Nat → List S → List S → List S
  | 0, a, b => a ++ b
  | _ + 1, [], b => b
  | _ + 1, x :: a, [] => x :: a
  | f + 1, x :: a, y :: b => if x < y then x :: mg f a (y :: b) else if y < x then y :: mg f (x :: a) b else x :: mg f a b

theorem mg_nil_left (f : Nat) (b : List S) : mg f [] b = b := by cases f <;> rfl
theorem mg_nil_right (f : Nat) (a : List S) : mg f a [] = a := by cases f <;> cases a <;> simp [mg]

theorem mg_len : ∀ (f : Nat) (a b : List S), (mg f a b).length ≤ a.length + b.length
  | 0, a, b => by simp [mg]
  | f + 1, [], b => by simp [mg]
  | f + 1, x :: a, [] => by simp [mg]
  | f + 1, x :: a, y :: b => by
    simp only [mg]
    have h1 := mg_len f a (y :: b)
    have h2 := mg_len f (x :: a) b
    have h3 := mg_len f a b
    split
    · simp at *; omega
    · split
      · simp at *; omega
      · simp at *; omega

theorem mg_mem : ∀ (f : Nat) (a b : List S) (s : S), s ∈ mg f a b → s ∈ a ∨ s ∈ b
  | 0, a, b, s, h => by simpa [mg] using h
  | f + 1, [], b, s, h => .inr (by simpa [mg] using h)
  | f + 1, x :: a, [], s, h => .inl (by simpa [mg] using h)
  | f + 1, x :: a, y :: b, s, h => by
    simp only [mg] at h
    split at h
    · rcases List.mem_cons.1 h with rfl | h
      · exact .inl (by simp)
      · rcases mg_mem f _ _ _ h with h | h
        · exact .inl (by simp [h])
        · exact .inr h
    · split at h
      · rcases List.mem_cons.1 h with rfl | h
        · exact .inr (by simp)
        · rcases mg_mem f _ _ _ h with h | h
          · exact .inl h
          · exact .inr (by simp [h])
      · rcases List.mem_cons.1 h with rfl | h
        · exact .inl (by simp)
        · rcases mg_mem f _ _ _ h with h | h
          · exact .inl (by simp [h])
          · exact .inr (by simp [h])

theorem mg_sorted : ∀ (f : Nat) (a b : List S), a.length + b.length ≤ f → a.Pairwise (· ≤ ·) → b.Pairwise (· ≤ ·) → (mg f a b).Pairwise (· ≤ ·)
  | 0, a, b, hf, ha, hb => by
    obtain rfl : a = [] := List.eq_nil_of_length_eq_zero (by omega)
    simpa [mg] using hb
  | f + 1, [], b, hf, ha, hb => by simpa [mg] using hb
  | f + 1, x :: a, [], hf, ha, hb => by simpa [mg] using ha
  | f + 1, x :: a, y :: b, hf, ha, hb => by
    simp only [mg]
    have ha' := List.pairwise_cons.1 ha
    have hb' := List.pairwise_cons.1 hb
    simp only [List.length_cons] at hf
    split
    · rename_i hxy
      refine List.pairwise_cons.2 ⟨fun s hs => ?_, mg_sorted f a (y :: b) (by simp; omega) ha'.2 hb⟩
      rcases mg_mem f _ _ _ hs with h | h
      · exact ha'.1 s h
      · rcases List.mem_cons.1 h with rfl | h
        · exact le_of_lt hxy
        · exact List.le_trans (le_of_lt hxy) (hb'.1 s h)
    · rename_i hxy
      split
      · rename_i hyx
        refine List.pairwise_cons.2 ⟨fun s hs => ?_, mg_sorted f (x :: a) b (by simp; omega) ha hb'.2⟩
        rcases mg_mem f _ _ _ hs with h | h
        · rcases List.mem_cons.1 h with rfl | h
          · exact le_of_lt hyx
          · exact List.le_trans (le_of_lt hyx) (ha'.1 s h)
        · exact hb'.1 s h
      · rename_i hyx
        obtain rfl : x = y := List.le_antisymm hyx hxy
        refine List.pairwise_cons.2 ⟨fun s hs => ?_, mg_sorted f a b (by omega) ha'.2 hb'.2⟩
        rcases mg_mem f _ _ _ hs with h | h
        · exact ha'.1 s h
        · exact hb'.1 s h

theorem count_zero_of_lt {x y : S} {b : List S} (hxy : x < y) (hb : ∀ s ∈ b, y ≤ s) : (y :: b).count x = 0 := by
  refine List.count_eq_zero.2 fun h => ?_
  rcases List.mem_cons.1 h with rfl | h
  · exact List.lt_irrefl _ hxy
  · exact List.lt_irrefl x (lt_of_lt_of_le hxy (hb x h))

theorem mg_count : ∀ (f : Nat) (a b : List S) (s : S), a.length + b.length ≤ f → a.Pairwise (· ≤ ·) → b.Pairwise (· ≤ ·) → (mg f a b).count s = max (a.count s) (b.count s)
  | 0, a, b, s, hf, ha, hb => by
    obtain rfl : a = [] := List.eq_nil_of_length_eq_zero (by omega)
    simp [mg]
  | f + 1, [], b, s, hf, ha, hb => by simp [mg]
  | f + 1, x :: a, [], s, hf, ha, hb => by simp [mg]
  | f + 1, x :: a, y :: b, s, hf, ha, hb => by
    simp only [mg]
    have ha' := List.pairwise_cons.1 ha
    have hb' := List.pairwise_cons.1 hb
    simp only [List.length_cons] at hf
    split
    · rename_i hxy
      rw [List.count_cons, mg_count f a (y :: b) s (by simp; omega) ha'.2 hb, List.count_cons (l := a)]
      by_cases e : x = s
      · subst e
        rw [count_zero_of_lt hxy hb'.1]
        simp
      · simp [e]
    · rename_i hxy
      split
      · rename_i hyx
        rw [List.count_cons, mg_count f (x :: a) b s (by simp; omega) ha hb'.2, List.count_cons (l := b)]
        by_cases e : y = s
        · subst e
          rw [count_zero_of_lt hyx ha'.1]
          simp
        · simp [e]
      · rename_i hyx
        obtain rfl : x = y := List.le_antisymm hyx hxy
        rw [List.count_cons, mg_count f a b s (by omega) ha'.2 hb'.2, List.count_cons (l := a), List.count_cons (l := b)]
        by_cases e : x = s
        · subst e; simp
        · simp [e]

/-- the sort, as the library's contract says it -/
def srt (l : List S) : List S := l.mergeSort fun x y => decide (x ≤ y)
theorem srt_sorted (l : List S) : (srt l).Pairwise (· ≤ ·) := by
  have tr : ∀ a b c : S, decide (a ≤ b) = true → decide (b ≤ c) = true → decide (a ≤ c) = true := fun a b c h1 h2 => by simp only [decide_eq_true_eq] at *; exact List.le_trans h1 h2
  have to : ∀ a b : S, (decide (a ≤ b) || decide (b ≤ a)) = true := fun a b => by simp only [Bool.or_eq_true, decide_eq_true_eq]; exact List.le_total a b
  have := List.pairwise_mergeSort tr to l
  refine List.Pairwise.imp (fun h => ?_) this
  simpa using h
theorem srt_perm (l : List S) : (srt l).Perm l := List.mergeSort_perm l _
theorem srt_len (l : List S) : (srt l).length = l.length := (srt_perm l).length_eq
theorem srt_mem (l : List S) (s : S) : s ∈ srt l ↔ s ∈ l := (srt_perm l).mem_iff

/-- two strictly rising lists with the same members are one -/
theorem strict_unique {a b : List S} (ha : a.Pairwise (· < ·)) (hb : b.Pairwise (· < ·)) (h : ∀ s, s ∈ a ↔ s ∈ b) : a = b := by
  have na : a.Nodup := ha.imp fun {x y} h e => by subst e; exact List.lt_irrefl _ h
  have nb : b.Nodup := hb.imp fun {x y} h e => by subst e; exact List.lt_irrefl _ h
  have hp : a.Perm b := (List.perm_ext_iff_of_nodup na nb).2 h
  refine List.Perm.eq_of_pairwise (le := fun x y : S => x ≤ y) (fun x y _ _ h1 h2 => List.le_antisymm h1 h2) (ha.imp le_of_lt) (hb.imp le_of_lt) hp

theorem strict_of_sorted_nodup {a : List S} (h : a.Pairwise (· ≤ ·)) (hn : a.Nodup) : a.Pairwise (· < ·) := by
  have := h.and hn
  exact this.imp fun ⟨h1, h2⟩ => lt_of_le_ne h1 h2

theorem mg_strict (f : Nat) (a b : List S) (hf : a.length + b.length ≤ f) (ha : a.Pairwise (· < ·)) (hb : b.Pairwise (· < ·)) : (mg f a b).Pairwise (· < ·) ∧ ∀ s, s ∈ mg f a b ↔ s ∈ a ∨ s ∈ b := by
  have ha' := ha.imp (S := fun x y : S => x ≤ y) le_of_lt
  have hb' := hb.imp (S := fun x y : S => x ≤ y) le_of_lt
  have na : a.Nodup := ha.imp fun {x y} h e => by subst e; exact List.lt_irrefl _ h
  have nb : b.Nodup := hb.imp fun {x y} h e => by subst e; exact List.lt_irrefl _ h
  refine ⟨strict_of_sorted_nodup (mg_sorted f a b hf ha' hb') ?_, fun s => ?_⟩
  · rw [List.nodup_iff_count]
    intro s
    rw [mg_count f a b s hf ha' hb']
    have h1 := (List.nodup_iff_count.1 na) s
    have h2 := (List.nodup_iff_count.1 nb) s
    omega
  · rw [← List.count_pos_iff, ← List.count_pos_iff, ← List.count_pos_iff, mg_count f a b s hf ha' hb']
    omega

/-- a sorted list compacted: strictly rising, the same members -/
theorem compact_strict (l : List S) (h : l.Pairwise (· ≤ ·)) : ∀ m, m ≤ l.length → (Lib.compactUpTo l.toArray m).Pairwise (· < ·) ∧ ∀ s, s ∈ Lib.compactUpTo l.toArray m ↔ s ∈ l.take m := by
  intro m
  induction m with
  | zero => intro _; simp [Lib.compactUpTo]
  | succ m ih =>
    intro hm
    obtain ⟨h1, h2⟩ := ih (by omega)
    have hget : l.toArray[m]! = l[m] := by simp [getElem!_pos, show m < l.length by omega]
    have htake : l.take (m + 1) = l.take m ++ [l[m]] := by rw [List.take_succ_eq_append_getElem (by omega)]
    rw [Lib.compactUpTo_succ, htake, hget]
    by_cases hk : Lib.keeps l.toArray m = true
    · rw [if_pos hk]
      refine ⟨List.pairwise_append.2 ⟨h1, List.pairwise_singleton _ _, fun x hx y hy => ?_⟩, fun s => by rw [List.mem_append, h2 s, List.mem_append]⟩
      obtain rfl := List.mem_singleton.1 hy
      obtain ⟨i, hi, rfl⟩ := List.mem_iff_getElem.1 ((h2 x).1 hx)
      have him : i < m := by simp at hi; omega
      have hle : ∀ i j (hi : i < l.length) (hj : j < l.length), i < j → l[i] ≤ l[j] := fun i j hi hj hij => List.pairwise_iff_getElem.1 h i j hi hj hij
      have hkk : m = 0 ∨ l.toArray[m]! ≠ l.toArray[m - 1]! := by simpa [Lib.keeps] using hk
      have hne : l[m] ≠ l[m - 1] := by
        rcases hkk with h0 | h0
        · omega
        · rw [hget, show l.toArray[m - 1]! = l[m - 1] by simp [getElem!_pos, show m - 1 < l.length by omega]] at h0
          exact h0
      have hlt : l[m - 1] < l[m] := lt_of_le_ne (hle (m - 1) m (by omega) (by omega) (by omega)) (Ne.symm hne)
      have hx' : (l.take m)[i] = l[i]'(by omega) := by simp
      rw [hx']
      rcases Nat.lt_or_ge i (m - 1) with hi1 | hi1
      · exact lt_of_le_ne (hle i m (by omega) (by omega) him) (fun e => by
          have a1 := hle i (m - 1) (by omega) (by omega) hi1
          rw [e] at a1
          exact List.lt_irrefl _ (lt_of_lt_of_le hlt a1))
      · obtain rfl : i = m - 1 := by omega
        exact hlt
    · rw [if_neg hk]
      refine ⟨by simpa using h1, fun s => ?_⟩
      have hkk : ¬ (m = 0 ∨ l.toArray[m]! ≠ l.toArray[m - 1]!) := by simpa [Lib.keeps] using hk
      have h0 : m ≠ 0 := fun e => hkk (.inl e)
      have heq : l[m] = l[m - 1] := by
        rcases Classical.em (l[m] = l[m - 1]) with e | e
        · exact e
        · exact absurd (.inr (by rw [hget, show l.toArray[m - 1]! = l[m - 1] by simp [getElem!_pos, show m - 1 < l.length by omega]]; exact e)) hkk
      rw [List.append_nil, h2 s, List.mem_append, List.mem_singleton, heq]
      refine ⟨.inl, fun h => ?_⟩
      rcases h with h | rfl
      · exact h
      · exact List.mem_iff_getElem.2 ⟨m - 1, by simp; omega, by simp⟩

end Go.Proofs.UnionMath
