/- A slice that the call itself builds by append: what it holds, and which block is its own. Of no program. -/
import Derived.Deep.AppendSrc
import Derived.WalkKit
import Derived.Deep.OwnRows
import Derived.Deep.Draws
namespace Go.Proofs.Own
open Go.RowKit
set_option linter.unusedVariables false
set_option linter.unusedSimpArgs false

/-- 'v' is a slice (of elements of one cell of type e) that begins at the head of a whole row and holds xs; or nil, holding nothing. -/
def RowAt (w : World) (e : TypeId) (v : Value) (xs : List Value) : Prop :=
  (v = .slice none 0 0 ∧ xs = []) ∨
  ∃ g cap cur, v = .slice (some ⟨g, 0, none⟩) xs.length cap ∧ w.heap[g]? = some (.cells cur e (0, 0)) ∧ xs.length ≤ cap ∧ cap ≤ maxLen ∧ cur.size = cap ∧ cur.toList.take xs.length = xs

/-- only v's own row and new blocks have turned; v' has v's own block or a new one -/
structure Grow (w w' : World) (v v' : Value) : Prop where
  os : w'.os = w.os
  tape : w'.tape = w.tape
  output : w'.output = w.output
  size : w.heap.size ≤ w'.heap.size
  block : ∀ k, k < w.heap.size → some k ≠ v.ownBlock → w'.heap[k]? = w.heap[k]?
  own : v'.ownBlock = v.ownBlock ∨ ∃ k, v'.ownBlock = some k ∧ w.heap.size ≤ k

theorem Grow.refl (w : World) (v : Value) : Grow w w v v := ⟨rfl, rfl, rfl, Nat.le_refl _, fun _ _ _ => rfl, .inl rfl⟩

theorem Grow.trans {a b c : World} {u v x : Value} (h : Grow a b u v) (k : Grow b c v x) : Grow a c u x := by
  refine ⟨k.os.trans h.os, k.tape.trans h.tape, k.output.trans h.output, Nat.le_trans h.size k.size, fun i hi hne => ?_, ?_⟩
  · have hs := h.size
    rw [k.block i (by omega) ?_, h.block i hi hne]
    rcases h.own with e | ⟨j, e, hj⟩
    · rw [e]; exact hne
    · rw [e]; intro hx; cases hx; omega
  · rcases k.own with e | ⟨j, e, hj⟩
    · rw [e]; exact h.own
    · exact .inr ⟨j, e, Nat.le_trans h.size hj⟩

theorem Grow.alloc {a b : World} {u v : Value} (h : Grow a b u v) (o : Obj) : Grow a (b.alloc o) u v :=
  ⟨h.os, h.tape, h.output, Nat.le_trans h.size (by simp), fun k hk hne => (Go.Deep.blk_alloc_lt _ _ _ (Nat.lt_of_lt_of_le hk h.size)).trans (h.block k hk hne), h.own⟩

theorem Grow.drewN {a b : World} {u v : Value} (h : Grow a b u v) (n : Nat) : Grow a (b.drewN n) u v := ⟨h.os, h.tape, h.output, h.size, h.block, h.own⟩

/-- started from a world with one new block more -/
theorem Grow.of_alloc {a b : World} {u v : Value} {o : Obj} (h : Grow (a.alloc o) b u v) (hu : ∀ k, u.ownBlock = some k → k < a.heap.size) : Grow a b u v := by
  have hs := h.size
  simp at hs
  refine ⟨h.os, h.tape, h.output, by omega, fun k hk hne => (h.block k (by simp; omega) hne).trans (Go.Deep.blk_alloc_lt _ _ _ hk), ?_⟩
  rcases h.own with e | ⟨j, e, hj⟩
  · exact .inl e
  · simp at hj
    exact .inr ⟨j, e, by omega⟩

theorem Grow.below {w w' : World} {v v' : Value} {B : Nat} (h : Grow w w' v v') (hB : B ≤ w.heap.size) (hv : ∀ k, v.ownBlock = some k → B ≤ k) : Below B w w' :=
  ⟨h.os, h.tape, h.output, h.size, fun k hk => h.block k (by omega) (fun e => by have := hv k e.symm; omega)⟩

section
variable {w w' : World} {e : TypeId} {v : Value} {xs : List Value}

theorem RowAt.nil (w : World) (e : TypeId) : RowAt w e (.slice none 0 0) [] := .inl ⟨rfl, rfl⟩

theorem RowAt.lt (h : RowAt w e v xs) : ∀ k, v.ownBlock = some k → k < w.heap.size := by
  intro k hk
  rcases h with ⟨rfl, _⟩ | ⟨g, cap, cur, rfl, hg, _⟩
  · simp [Value.ownBlock] at hk
  · simp [Value.ownBlock] at hk
    subst hk
    exact (Array.getElem?_eq_some_iff.1 hg).1

theorem RowAt.kept (h : RowAt w e v xs) (hk : ∀ k, v.ownBlock = some k → w'.heap[k]? = w.heap[k]?) : RowAt w' e v xs := by
  rcases h with h | ⟨g, cap, cur, rfl, hg, rest⟩
  · exact .inl h
  · exact .inr ⟨g, cap, cur, rfl, (hk g rfl).trans hg, rest⟩

theorem RowAt.alloc (h : RowAt w e v xs) (o : Obj) : RowAt (w.alloc o) e v xs := h.kept fun k hk => Go.Deep.blk_alloc_lt _ _ _ (h.lt k hk)
theorem RowAt.drewN (h : RowAt w e v xs) (n : Nat) : RowAt (w.drewN n) e v xs := h

/-- a store elsewhere -/
theorem RowAt.setOther (h : RowAt w e v xs) {a : Addr} (ha : ∀ k, v.ownBlock = some k → k ≠ a.block) (x : Value) : RowAt (w.setCell a x) e v xs :=
  h.kept fun k hk => Below.heap_setCell _ _ _ _ (ha k hk)

/-- the value's shape -/
theorem RowAt.shape (h : RowAt w e v xs) : ∃ a cap, v = .slice a xs.length cap ∧ (a = none ∨ ∃ g, a = some ⟨g, 0, none⟩ ∧ v.ownBlock = some g) := by
  rcases h with ⟨rfl, rfl⟩ | ⟨g, cap, cur, rfl, _⟩
  · exact ⟨none, 0, rfl, .inl rfl⟩
  · exact ⟨some ⟨g, 0, none⟩, cap, rfl, .inr ⟨g, rfl, rfl⟩⟩

theorem RowAt.isSlice (h : RowAt w e v xs) : ∃ a n c, v = .slice a n c := by
  obtain ⟨a, c, rfl, _⟩ := h.shape
  exact ⟨_, _, _, rfl⟩

theorem RowAt.cell (h : RowAt w e v xs) {g : Nat} (hg : v.ownBlock = some g) {j : Nat} {u : Value} (hu : xs[j]? = some u) : w.cell? ⟨g, j, none⟩ = some u := by
  rcases h with ⟨rfl, rfl⟩ | ⟨g', cap, cur, rfl, hgg, _, _, _, htake⟩
  · simp at hu
  · simp [Value.ownBlock] at hg
    subst hg
    rw [← htake, List.getElem?_take] at hu
    split at hu
    · simpa [World.cell?, hgg] using hu
    · cases hu

end

/-- a row that was just made, whole -/
theorem RowAt.made (w : World) (cur : Array Value) (e : TypeId) (n : Nat) (hn : n ≤ cur.size) (hm : cur.size ≤ maxLen) : RowAt (w.alloc (.cells cur e)) e (.slice (some ⟨w.heap.size, 0, none⟩) n cur.size) (cur.toList.take n) :=
  .inr ⟨w.heap.size, cur.size, cur, by simp [Nat.min_eq_left hn], Go.Deep.blk_alloc_new _ _, by simp; omega, hm, rfl, by simp [Nat.min_eq_left hn]⟩

section
variable {P : Program} (w : World)

theorem run_append_room_row (t tx ty e : TypeId) (i : TypeInfo) (ht : P.underlying t = some (.slice e)) (hi : P.info? e = some i) (hs1 : i.size = 1) (g sLen sCap : Nat) (cur : Array Value) (hg : w.heap[g]? = some (.cells cur e (0, 0)))
    (x : Value) (n : Nat) (news : List Value) (hs : Src P 1 tx x n news w) (hroom : sLen + n ≤ sCap) (hfit : sLen + n ≤ cur.size) :
    (Builtin.append_ #[t, tx] ty #[.slice (some ⟨g, 0, none⟩) sLen sCap, x]).run P w = .ok (.slice (some ⟨g, 0, none⟩) (sLen + n) sCap) (w.setRow g (cur.toList.take sLen ++ news ++ cur.toList.drop (sLen + n)).toArray) := by
  have hl : news.length = n := by simpa using hs.newsLen
  have hst := run_storeCells_at P g sLen e news 0 cur w hg (by simpa [hl] using hfit) hs.one
  simp only [Nat.add_zero, hl] at hst
  have hc := hs.cells
  rcases hs.kind with ⟨e', hk⟩ | hk <;> simp [Builtin.append_, run_underlying ht, run_underlying hk, sizeOf, typeInfo, hi, hs1, hs.len, hroom, hc, Addr.add_lit, hst]

/-- THE LAW: append of whatever source onto a slice of the call's own. -/
theorem run_append_row (t tx ty e : TypeId) (i : TypeInfo) (z : Value) (bytes : Nat) (ht : P.underlying t = some (.slice e)) (hi : P.info? e = some i) (hz : i.zero = some z) (hs1 : i.size = 1) (hby : i.bytes = bytes) (hzs : z.cells.size = 1)
    (v : Value) (xs : List Value) (hown : RowAt w e v xs) (x : Value) (n : Nat) (news : List Value) (hs : Src P 1 tx x n news w) (hbytes : (xs.length + n) * bytes ≤ 140737488355328) (hlen : xs.length + n ≤ 140737488355328) :
    ∃ v' w', (Builtin.append_ #[t, tx] ty #[v, x]).run P w = .ok v' w' ∧ RowAt w' e v' (xs ++ news) ∧ Grow w w' v v' := by
  subst hby
  have hl : news.length = n := by simpa using hs.newsLen
  have h63 : xs.length + n ≤ maxLen := by unfold maxLen; omega
  have grown : ∀ (old : Nat) (v0 : Value), RowAt (w.drew.alloc (.cells ((xs ++ news).toArray ++ Builtin.zeroCells z.cells (grownCap w (xs.length + n) old e - (xs.length + n))) e)) e
        (.slice (some ⟨w.heap.size, 0, none⟩) (xs.length + n) (grownCap w (xs.length + n) old e)) (xs ++ news) ∧
      Grow w (w.drew.alloc (.cells ((xs ++ news).toArray ++ Builtin.zeroCells z.cells (grownCap w (xs.length + n) old e - (xs.length + n))) e)) v0 (.slice (some ⟨w.heap.size, 0, none⟩) (xs.length + n) (grownCap w (xs.length + n) old e)) := by
    intro old v0
    have hge := grownCap_ge w (xs.length + n) old e
    have hcm : grownCap w (xs.length + n) old e ≤ maxLen := grownCap_le_maxLen w (xs.length + n) old e h63
    refine ⟨.inr ⟨w.heap.size, _, _, by simp [hl], heap_alloc_new w.drew _, by simp [hl]; exact hge, hcm, ?_, ?_⟩, ⟨rfl, rfl, rfl, by simp, fun k hk _ => Go.Deep.blk_alloc_lt w.drew _ _ hk, .inr ⟨w.heap.size, rfl, Nat.le_refl _⟩⟩⟩
    · simp only [Array.size_append, List.size_toArray, size_zeroCells, hzs, List.length_append, hl]
      omega
    · simp only [Array.toList_append]
      exact List.take_left
  rcases hown with ⟨rfl, rfl⟩ | ⟨g, cap, cur, rfl, hg, hnc, hcm, hcs, htake⟩
  · by_cases hn : n = 0
    · subst hn
      have hnn : news = [] := List.eq_nil_of_length_eq_zero hl
      subst hnn
      refine ⟨.slice none 0 0, w, ?_, RowAt.nil w e, Grow.refl _ _⟩
      have hc := hs.cells
      rcases hs.kind with ⟨e', hk⟩ | hk <;> simp [Builtin.append_, run_underlying ht, run_underlying hk, sizeOf, typeInfo, hi, hs1, hs.len, hc]
    · have hr := run_append_grow_src (P := P) w t tx ty e i z ht hi hz none 0 0 [] (by simp [Builtin.firstCells]) x n news (by rw [hs1]; exact hs) (by omega) (by simp at hlen; omega) (growslice_fits (by omega) hbytes)
      have hgr := grown 0 (.slice none 0 0)
      simp only [List.length_nil, Nat.zero_add, List.nil_append] at hgr hr ⊢
      exact ⟨_, _, hr, hgr.1, hgr.2⟩
  · by_cases hroom : xs.length + n ≤ cap
    · have hr := run_append_room_row (P := P) w t tx ty e i ht hi hs1 g xs.length cap cur hg x n news hs hroom (by omega)
      refine ⟨_, _, hr, .inr ⟨g, cap, _, by simp [hl], setRow_heap w g cur _ e _ hg, by simp [hl]; exact hroom, hcm, ?_, ?_⟩, ⟨rfl, rfl, rfl, by simp, fun k _ hk => setRow_other w g k _ (fun e => hk (by simp [Value.ownBlock, e])), .inl rfl⟩⟩
      · simp only [List.size_toArray, List.length_append, List.length_take, List.length_drop, Array.length_toList]
        omega
      · rw [htake]
        exact List.take_left
    · have holds : ∀ j u, xs[j]? = some u → w.cell? ((⟨g, 0, none⟩ : Addr).add j) = some u := fun j u hu => by
        rw [Addr.add_lit, Nat.zero_add]
        exact RowAt.cell (e := e) (v := .slice (some ⟨g, 0, none⟩) xs.length cap) (.inr ⟨g, cap, cur, rfl, hg, hnc, hcm, hcs, htake⟩) rfl hu
      have hfo := run_firstCells_some (P := P) w.drew 1 xs.length ⟨g, 0, none⟩ xs.length cap xs (by simp) (by simpa using holds)
      have hr := run_append_grow_src (P := P) w t tx ty e i z ht hi hz (some ⟨g, 0, none⟩) xs.length cap xs (by rw [hs1]; exact hfo) x n news (by rw [hs1]; exact hs) (by omega) (by omega) (growslice_fits (by omega) hbytes)
      have hgr := grown cap (.slice (some ⟨g, 0, none⟩) xs.length cap)
      exact ⟨_, _, hr, hgr.1, hgr.2⟩

/-- .. at the operation, for the walk -/
theorem wpList_append_row {ops : Array Oper} {rest : List Oper} {o : Oper} {a : Act} {Q : Exit → Act → World → Prop} (hgd : o.guard = none) (s x : Operand) (t tx : TypeId)
    (ho : o.op = .call { callee := .builtin .append, args := #[s, x], argTypes := #[t, tx] }) (e : TypeId) (z : Value) (bytes : Nat) (ht : P.underlying t = some (.slice e))
    (hinfo : (P.info? e).map (fun i => (i.zero, i.size, i.bytes)) = some (some z, 1, bytes)) (hzs : z.cells.size = 1)
    (v : Value) (xs : List Value) (hv : a.eval s = v) (hown : RowAt w e v xs) (xv : Value) (hx : a.eval x = xv) (n : Nat) (news : List Value) (hs : Src P 1 tx xv n news w) (hbytes : (xs.length + n) * bytes ≤ 140737488355328) (hlen : xs.length + n ≤ 140737488355328)
    (h : ∀ v' w', RowAt w' e v' (xs ++ news) → Grow w w' v v' → wpList P ops Q rest (a.put o.dst v') w') : wpList P ops Q (o :: rest) a w := by
  obtain ⟨i, hi, hzz⟩ := Option.map_eq_some_iff.1 hinfo
  simp only [Prod.mk.injEq] at hzz
  obtain ⟨hz, hs1, hb⟩ := hzz
  obtain ⟨v', w', hr, h1, h2⟩ := run_append_row (P := P) w t tx o.type e i z bytes ht hi hz hs1 hb hzs v xs hown xv n news hs hbytes hlen
  refine wpList_plain hgd fun K hK => ?_
  unfold Oper.wp execOp
  simp only [ho, resolve, invoke, builtin, Sem.run_bind, Sem.run_pure, Result.andThen_ok, List.map_toArray, List.map_cons, List.map_nil, hv, hx, hr]
  exact hK _ _ (h v' w' h1 h2)

end
end Go.Proofs.Own
