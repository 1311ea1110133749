/- LawS3696ARun: the frame of a step; the append laws of a step. -/
import Derived.Test.YbulkbxneRunB
namespace Go.Proofs.Ybulkbxne
open Go.RowKit Go.Proofs.WholeFloat Go.Proofs.Own
set_option maxRecDepth 100000
set_option maxHeartbeats 800000
set_option linter.unusedVariables false
set_option linter.unusedSimpArgs false

/-- only the blocks of S, and new ones, have turned -/
structure Kept (S : Nat → Prop) (w w' : World) : Prop where
  os : w'.os = w.os
  tape : w'.tape = w.tape
  output : w'.output = w.output
  size : w.heap.size ≤ w'.heap.size
  block : ∀ k, k < w.heap.size → ¬ S k → w'.heap[k]? = w.heap[k]?

theorem Kept.refl (S : Nat → Prop) (w : World) : Kept S w w := ⟨rfl, rfl, rfl, Nat.le_refl _, fun _ _ _ => rfl⟩

theorem Kept.trans {S T : Nat → Prop} {a b c : World} (h : Kept S a b) (k : Kept T b c) (hT : ∀ x, x < a.heap.size → T x → S x) : Kept S a c :=
  ⟨k.os.trans h.os, k.tape.trans h.tape, k.output.trans h.output, Nat.le_trans h.size k.size, fun x hx hn =>
    (k.block x (Nat.lt_of_lt_of_le hx h.size) (fun ht => hn (hT x hx ht))).trans (h.block x hx hn)⟩

theorem Kept.mono {S T : Nat → Prop} {a b : World} (h : Kept S a b) (hT : ∀ x, x < a.heap.size → S x → T x) : Kept T a b :=
  ⟨h.os, h.tape, h.output, h.size, fun x hx hn => h.block x hx (fun hs => hn (hT x hx hs))⟩

theorem Kept.alloc {S : Nat → Prop} {a b : World} (h : Kept S a b) (o : Obj) : Kept S a (b.alloc o) :=
  ⟨h.os, h.tape, h.output, Nat.le_trans h.size (by simp), fun x hx hn => (Go.Deep.blk_alloc_lt _ _ _ (Nat.lt_of_lt_of_le hx h.size)).trans (h.block x hx hn)⟩

theorem Kept.setCell {S : Nat → Prop} {a b : World} (h : Kept S a b) {p : Addr} (hp : S p.block ∨ a.heap.size ≤ p.block) (u : Value) : Kept S a (b.setCell p u) :=
  ⟨h.os, h.tape, h.output, by simpa [World.setCell] using h.size, fun x hx hn => (Below.heap_setCell _ _ _ _ (fun e => by
    subst e
    rcases hp with hp | hp
    · exact hn hp
    · omega)).trans (h.block x hx hn)⟩

theorem Kept.drew {S : Nat → Prop} {a b : World} (h : Kept S a b) : Kept S a b.drew := ⟨h.os, h.tape, h.output, h.size, h.block⟩
theorem Kept.drewN {S : Nat → Prop} {a b : World} (h : Kept S a b) (n : Nat) : Kept S a (b.drewN n) := ⟨h.os, h.tape, h.output, h.size, h.block⟩

theorem Kept.below {S : Nat → Prop} {a b : World} (h : Kept S a b) {B : Nat} (hB : B ≤ a.heap.size) (hS : ∀ x, S x → B ≤ x) : Below B a b :=
  ⟨h.os, h.tape, h.output, h.size, fun x hx => h.block x (by omega) (fun hs => by have := hS x hs; omega)⟩

theorem Kept.ofBelow {S : Nat → Prop} {a b : World} (h : Below a.heap.size a b) : Kept S a b := ⟨h.os, h.tape, h.output, h.size, fun x hx _ => h.block x hx⟩

/-- behind an append onto a slice of the call's own (made since the world a) -/
theorem Kept.grow {S : Nat → Prop} {a b c : World} (h : Kept S a b) {u v : Value} {o : Obj} {n : Nat} (hg : Grow ((b.alloc o).drewN n) c u v) (hu : ∀ k, u.ownBlock = some k → a.heap.size ≤ k) : Kept S a c :=
  ⟨hg.os.trans h.os, hg.tape.trans h.tape, hg.output.trans h.output, by have := hg.size; have := h.size; simp at *; omega, fun x hx hn => by
    have hs := h.size
    rw [hg.block x (by simp; omega) (fun e => by have := hu x e.symm; omega)]
    exact (Go.Deep.blk_alloc_lt _ _ _ (by omega)).trans (h.block x hx hn)⟩

theorem grow_own {a b c : World} {u v : Value} {o : Obj} {n : Nat} (hs : a.heap.size ≤ b.heap.size) (hg : Grow ((b.alloc o).drewN n) c u v) (hu : ∀ k, u.ownBlock = some k → a.heap.size ≤ k) : ∀ k, v.ownBlock = some k → a.heap.size ≤ k := by
  intro j hj
  rcases hg.own with e | ⟨i, e, hi⟩
  · exact hu j (by rw [← e]; exact hj)
  · rw [hj] at e; cases e; simp at hi; omega

theorem grow_blk {b c : World} {u v : Value} {o : Obj} {n x : Nat} (hg : Grow ((b.alloc o).drewN n) c u v) (hx : x < b.heap.size) (hu : ∀ k, u.ownBlock = some k → k ≠ x) : c.heap[x]? = b.heap[x]? := by
  rw [hg.block x (by simp; omega) (fun e => hu x e.symm rfl)]
  exact Go.Deep.blk_alloc_lt _ _ _ hx

/-- append onto a slice of the call's own, as one step of a region that draws -/
theorem step_append_row {P : Program} {ops : Array Oper} {o : Oper} {a : Act} {w : World} {K : Act → World → Prop} {Q : Exit → Act → World → Prop} {E : Prop} (hgd : o.guard = none) (s x : Operand) (t tx : TypeId)
    (ho : o.op = .call { callee := .builtin .append, args := #[s, x], argTypes := #[t, tx] }) (e : TypeId) (z : Value) (bytes : Nat) (ht : P.underlying t = some (.slice e))
    (hinfo : (P.info? e).map (fun i => (i.zero, i.size, i.bytes)) = some (some z, 1, bytes)) (hzs : z.cells.size = 1)
    (v : Value) (xs : List Value) (hv : a.eval s = v) (hown : RowAt w e v xs) (xv : Value) (hx : a.eval x = xv) (n : Nat) (news : List Value) (hs : Src P 1 tx xv n news w) (hbytes : (xs.length + n) * bytes ≤ 140737488355328) (hlen : xs.length + n ≤ 140737488355328)
    (h : ∀ v' w', RowAt w' e v' (xs ++ news) → Grow w w' v v' → K (a.put o.dst v') w') : if Region.wanted o (yielded ops a.tmps) = true then Oper.wp P o a w K Q else E := by
  have hw : Region.wanted o (yielded ops a.tmps) = true := by simp [Region.wanted, hgd]
  rw [if_pos hw]
  obtain ⟨i, hi, hzz⟩ := Option.map_eq_some_iff.1 hinfo
  simp only [Prod.mk.injEq] at hzz
  obtain ⟨hz, hs1, hb⟩ := hzz
  obtain ⟨v', w', hr, h1, h2⟩ := run_append_row (P := P) w t tx o.type e i z bytes ht hi hz hs1 hb hzs v xs hown xv n news hs hbytes hlen
  unfold Oper.wp execOp
  simp only [ho, resolve, invoke, builtin, Sem.run_bind, Sem.run_pure, Result.andThen_ok, List.map_toArray, List.map_cons, List.map_nil, hv, hx, hr]
  exact h v' w' h1 h2

theorem src_flt (w : World) (b : Nat) (n : Nat) : Src Yba.prog 1 24 (.slice (some ⟨w.heap.size, 0, none⟩) 1 1) 1 [.float .f64 b] ((w.alloc (.cells #[.float .f64 b] 25)).drewN n) :=
  Src.ofSlice _ Yba.underlying24 _ _ _ _ rfl (fun j u hj => by
    match j, hj with
    | 0, hj => simp at hj; subst hj; simp [Addr.add]) (fun u hu => by simp at hu; subst hu; rfl)

/-- the rule's block -/
def ruleC (c d : Int) (p g s : Value) : Array Value := #[.int .i64 c, .int .i64 d, p, g, s]

/-- the floats of v from lo on, i of them -/
def fls (v : Nat → Int) (lo i : Nat) : List Value := (List.range i).map fun j => .float .f64 (floatOfInt .f64 (v (lo + j)))

theorem fls_len (v : Nat → Int) (lo i : Nat) : (fls v lo i).length = i := by simp [fls]
theorem fls_succ (v : Nat → Int) (lo i : Nat) : fls v lo i ++ [.float .f64 (floatOfInt .f64 (v (lo + i)))] = fls v lo (i + 1) := by
  simp [fls, List.range_succ]
theorem fls_get (v : Nat → Int) (lo i j : Nat) (h : j < i) : (fls v lo i)[j]? = some (.float .f64 (floatOfInt .f64 (v (lo + j)))) := by
  simp [fls, h]

/-- behind 'r.f = append(r.f, x)': the rule's block, the row, its owner, the frame -/
theorem grown_field {w wr w' : World} {q : Nat} (i : Nat) {cs : Array Value} {u v' : Value} {xs : List Value} {o : Obj} {m : Nat} (hql : q < w.heap.size) (f1 : wr.heap[q]? = some (.cells cs 33 (0, 0))) (f3 : ∀ b, u.ownBlock = some b → w.heap.size ≤ b)
    (f4 : Kept (fun b => b = q) w wr) (hr : RowAt w' 25 v' xs) (hg : Grow ((wr.alloc o).drewN m) w' u v') :
    (w'.setCell ⟨q, i, none⟩ v').heap[q]? = some (.cells (cs.setIfInBounds i v') 33 (0, 0)) ∧ RowAt (w'.setCell ⟨q, i, none⟩ v') 25 v' xs ∧ (∀ b, v'.ownBlock = some b → w.heap.size ≤ b) ∧ Kept (fun b => b = q) w (w'.setCell ⟨q, i, none⟩ v') := by
  have hqr : q < wr.heap.size := Nat.lt_of_lt_of_le hql f4.size
  have own' := grow_own f4.size hg f3
  have b1 := (grow_blk hg hqr (fun b hb => by have := f3 b hb; omega)).trans f1
  exact ⟨blk_setCell_same _ _ _ _ _ _ b1, hr.setOther (a := ⟨q, i, none⟩) (fun b hb => by have := own' b hb; show b ≠ q; omega) _, own', (f4.grow hg f3).setCell (p := ⟨q, i, none⟩) (.inl rfl) _⟩

theorem make_empty (n : Nat) (hn : n ≤ 1024) (w : World) : (Instr.makeSlice 24 (.int .i64 0) (.int .i64 (n : Int))).run Yba.prog w =
    .ok (.slice (some ⟨w.heap.size, 0, none⟩) 0 n) (w.alloc (.cells (madeCells #[.float .f64 0] n) 25)) := by
  obtain ⟨i, hi, hzz⟩ := Option.map_eq_some_iff.1 Yba.info25
  simp only [Prod.mk.injEq] at hzz
  obtain ⟨hz, hs, hb⟩ := hzz
  have := run_make (P := Yba.prog) w 24 25 i _ Yba.underlying24 hi hz .i64 .i64 0 n (by omega) (by omega) (by rw [hb]; omega) (by omega)
  simpa [hs, Value.cells] using this

theorem made_empty (n : Nat) (hn : n ≤ 1024) (w : World) : RowAt (w.alloc (.cells (madeCells #[.float .f64 0] n) 25)) 25 (.slice (some ⟨w.heap.size, 0, none⟩) 0 n) [] := by
  have := RowAt.made w (madeCells #[.float .f64 0] n) 25 0 (by simp) (by rw [size_madeCells]; unfold maxLen; omega)
  rw [size_madeCells] at this
  exact this

/-- v, one more in each place from lo on, k of them -/
def incR (v : Nat → Int) (lo k : Nat) : Nat → Int := fun x => if lo ≤ x ∧ x < lo + k then v x + 1 else v x

theorem incR_zero (v : Nat → Int) (lo x : Nat) : v x = incR v lo 0 x := by
  unfold incR
  rw [if_neg (by omega)]
theorem incR_at (v : Nat → Int) (lo k : Nat) : incR v lo k (lo + k) = v (lo + k) := by
  unfold incR
  rw [if_neg (by omega)]
theorem incR_succ (v : Nat → Int) (lo k x : Nat) : (if x = lo + k then v (lo + k) + 1 else incR v lo k x) = incR v lo (k + 1) x := by
  unfold incR
  by_cases e : x = lo + k
  · subst e; rw [if_pos rfl, if_pos (by omega)]
  · rw [if_neg e]
    by_cases h : lo ≤ x ∧ x < lo + k
    · rw [if_pos h, if_pos (by omega)]
    · rw [if_neg h, if_neg (by omega)]
/-- u, with v in each place from lo on, k of them -/
def putR (v u : Nat → Int) (lo k : Nat) : Nat → Int := fun x => if lo ≤ x ∧ x < lo + k then v x else u x
theorem putR_zero (v u : Nat → Int) (lo x : Nat) : u x = putR v u lo 0 x := by
  unfold putR
  rw [if_neg (by omega)]
theorem putR_succ (v u : Nat → Int) (lo k x : Nat) : (if x = lo + k then v (lo + k) else putR v u lo k x) = putR v u lo (k + 1) x := by
  unfold putR
  by_cases e : x = lo + k
  · subst e; rw [if_pos rfl, if_pos (by omega)]
  · rw [if_neg e]
    by_cases h : lo ≤ x ∧ x < lo + k
    · rw [if_pos h, if_pos (by omega)]
    · rw [if_neg h, if_neg (by omega)]

theorem add_one (k : FloatKind) (t : TypeId) (z : Int) (hz : Small z) (hz1 : Small (z + 1)) (w : World) : (binOp .add t (.float k (floatOfInt k z)) (.float k (floatOfInt k 1))).run Yba.prog w = .ok (.float k (floatOfInt k (z + 1))) w :=
  run_float_arith w .add t k _ _ _ (add_whole k z 1 hz (by unfold Small; decide) hz1)
theorem sub_two (k : FloatKind) (t : TypeId) (y z : Int) (hy : Small y) (hz : Small z) (hyz : Small (y - z)) (w : World) : (binOp .sub t (.float k (floatOfInt k y)) (.float k (floatOfInt k z))).run Yba.prog w = .ok (.float k (floatOfInt k (y - z))) w :=
  run_float_arith w .sub t k _ _ _ (sub_whole k y z hy hz hyz)
end Go.Proofs.Ybulkbxne
