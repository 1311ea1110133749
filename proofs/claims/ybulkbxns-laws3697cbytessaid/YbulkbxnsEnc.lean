/- The encoder's methods: what they append to its buffer. -/
import Derived.Test.YbulkbxnsUv
namespace Go.Proofs.Ybulkbxns
open Go.RowKit Go.Proofs.Own
set_option maxRecDepth 100000
set_option maxHeartbeats 800000
set_option linter.unusedVariables false
set_option linter.unusedSimpArgs false

/-- a string's bytes as numbers -/
def strI (s : ByteArray) : List Int := s.data.toList.map fun b => (b.toNat : Int)
theorem strI_len (s : ByteArray) : (strI s).length = s.size := by
  unfold strI; rw [List.length_map, Array.length_toList]; rfl
theorem strI_cells (s : ByteArray) : byteCells s = (strI s).map bv := by
  unfold byteCells strI; rw [List.map_map]; rfl

theorem astr27 (s : ByteArray) (v : Value) (bs : List Int) (w : World) (h : RowAt w 5 v (bs.map bv)) (hl : bs.length ≤ 549755813888) (hs : s.size ≤ 65536) :
    Calls Yba.prog 27 #[v, .string s] w fun e w' => ∃ v', e = .returned v' ∧ RowAt w' 5 v' ((bs ++ (uvI 10 s.size ++ strI s)).map bv) ∧ Grow w w' v v' := by
  have hul := uvI_len 10 s.size
  go_enter Yba.func27, Yba.ntmps27
  go_wp2_with fail
  refine (uv26 s.size (by omega) (by omega) v bs _ h (by omega)).mono ?_
  rintro e w1 ⟨v1, rfl, h1, g1⟩
  have hsrc : Src Yba.prog 1 9 (.string s) s.size (byteCells s) w1 := Src.ofString _ Yba.underlying9 s
  go_wp2_with (at_builtin; go_must (refine wpList_append_row _ rfl _ _ 32 9 rfl 5 (.int .u8 0) 1 Yba.underlying32 info5 rfl _ _ rfl h1 _ rfl _ _ hsrc ?h1 ?h2 ?_))
  case h1 => simp; omega
  case h2 => simp; omega
  intro v2 w2 h2 g2
  have hgg : Grow w w2 v v2 := g1.trans g2
  have hrr : RowAt w2 5 v2 ((bs ++ (uvI 10 s.size ++ strI s)).map bv) := by rw [strI_cells] at h2; simpa using h2
  clear h1 g1 h2 g2 hsrc
  go_wp2
  go_ret
  exact ⟨_, rfl, hrr, hgg⟩


/-- an encoder's block -/
def encC (v : Value) : Array Value := #[.bool false, .slice none 0 0, .map none, v]

/-- block E is an encoder whose buffer v holds bs -/
structure EncIs (w : World) (E : Nat) (v : Value) (bs : List Int) : Prop where
  blk : w.heap[E]? = some (.cells (encC v) 40 (0, 0))
  row : RowAt w 5 v (bs.map bv)
  ne : ∀ k, v.ownBlock = some k → k ≠ E

/-- only the encoder, its buffer's row and new blocks have turned -/
structure EGrow (w w' : World) (E : Nat) (v v' : Value) : Prop where
  os : w'.os = w.os
  tape : w'.tape = w.tape
  output : w'.output = w.output
  size : w.heap.size ≤ w'.heap.size
  block : ∀ k, k < w.heap.size → k ≠ E → some k ≠ v.ownBlock → w'.heap[k]? = w.heap[k]?
  own : v'.ownBlock = v.ownBlock ∨ ∃ k, v'.ownBlock = some k ∧ w.heap.size ≤ k

theorem EGrow.refl (w : World) (E : Nat) (v : Value) : EGrow w w E v v := ⟨rfl, rfl, rfl, Nat.le_refl _, fun _ _ _ _ => rfl, .inl rfl⟩

theorem EGrow.trans {a b c : World} {E : Nat} {u v x : Value} (h : EGrow a b E u v) (k : EGrow b c E v x) : EGrow a c E u x := by
  refine ⟨k.os.trans h.os, k.tape.trans h.tape, k.output.trans h.output, Nat.le_trans h.size k.size, fun i hi hE hne => ?_, ?_⟩
  · have hs := h.size
    rw [k.block i (by omega) hE ?_, h.block i hi hE hne]
    rcases h.own with e | ⟨j, e, hj⟩
    · rw [e]; exact hne
    · rw [e]; intro hx; cases hx; omega
  · rcases k.own with e | ⟨j, e, hj⟩
    · rw [e]; exact h.own
    · exact .inr ⟨j, e, Nat.le_trans h.size hj⟩

theorem EGrow.alloc {a b : World} {E : Nat} {u v : Value} (h : EGrow a b E u v) (o : Obj) : EGrow a (b.alloc o) E u v :=
  ⟨h.os, h.tape, h.output, Nat.le_trans h.size (by simp), fun k hk hE hne => (Go.Deep.blk_alloc_lt _ _ _ (Nat.lt_of_lt_of_le hk h.size)).trans (h.block k hk hE hne), h.own⟩

/-- started from a world with one new block more -/
theorem EGrow.of_alloc {a b : World} {E : Nat} {u v : Value} {o : Obj} (h : EGrow (a.alloc o) b E u v) : EGrow a b E u v := by
  have hs := h.size
  simp at hs
  refine ⟨h.os, h.tape, h.output, by omega, fun k hk hE hne => (h.block k (by simp; omega) hE hne).trans (Go.Deep.blk_alloc_lt _ _ _ hk), ?_⟩
  rcases h.own with e | ⟨j, e, hj⟩
  · exact .inl e
  · simp at hj
    exact .inr ⟨j, e, by omega⟩

theorem EncIs.lt {w : World} {E : Nat} {v : Value} {bs : List Int} (h : EncIs w E v bs) : E < w.heap.size := (Array.getElem?_eq_some_iff.1 h.blk).1

theorem EncIs.alloc {w : World} {E : Nat} {v : Value} {bs : List Int} (h : EncIs w E v bs) (o : Obj) : EncIs (w.alloc o) E v bs :=
  ⟨(Go.Deep.blk_alloc_lt _ _ _ h.lt).trans h.blk, h.row.alloc o, h.ne⟩

theorem blk_set (w : World) (v i : Nat) (c : Array Value) (t : TypeId) (x : Value) (h : w.heap[v]? = some (.cells c t (0, 0))) :
    (w.setCell ⟨v, i, none⟩ x).heap[v]? = some (.cells (c.setIfInBounds i x) t (0, 0)) := by
  simp [World.setCell, Array.getElem?_modify, h]
theorem blk_cell {w : World} {v : Nat} {c : Array Value} {t : TypeId} (h : w.heap[v]? = some (.cells c t (0, 0))) (i : Nat) : w.cell? ⟨v, i, none⟩ = c[i]? := by
  simp [World.cell?, h]
theorem blk_frozen {w : World} {v : Nat} {c : Array Value} {t : TypeId} (h : w.heap[v]? = some (.cells c t (0, 0))) (i : Nat) : w.frozen? ⟨v, i, none⟩ = false := by
  simp [World.frozen?, h]

/-- the buffer grown and stored back -/
theorem enc_step {w w1 : World} {E : Nat} {v v1 : Value} {bs bs' : List Int} (h : EncIs w E v bs) (hr : RowAt w1 5 v1 (bs'.map bv)) (hg : Grow w w1 v v1) :
    EncIs (w1.setCell ⟨E, 3, none⟩ v1) E v1 bs' ∧ EGrow w (w1.setCell ⟨E, 3, none⟩ v1) E v v1 := by
  have hne : ∀ k, v1.ownBlock = some k → k ≠ E := by
    intro k hk
    rcases hg.own with e | ⟨j, e, hj⟩
    · exact h.ne k (by rw [← e]; exact hk)
    · have := h.lt
      rw [hk] at e
      cases e
      omega
  have hb1 : w1.heap[E]? = some (.cells (encC v) 40 (0, 0)) := (hg.block E h.lt (fun e => h.ne E e.symm rfl)).trans h.blk
  refine ⟨⟨?_, hr.setOther hne _, hne⟩, ⟨hg.os, hg.tape, hg.output, by simpa [World.setCell] using hg.size, fun k hk hE hnv => (Below.heap_setCell _ _ _ _ hE).trans (hg.block k hk hnv), hg.own⟩⟩
  rw [blk_set _ _ _ _ _ _ hb1]
  simp [encC]

theorem enc_cell {w w1 : World} {E : Nat} {v v1 : Value} {bs : List Int} (h : EncIs w E v bs) (hg : Grow w w1 v v1) : w1.cell? ⟨E, 3, none⟩ = some v ∧ w1.frozen? ⟨E, 3, none⟩ = false := by
  have hb1 : w1.heap[E]? = some (.cells (encC v) 40 (0, 0)) := (hg.block E h.lt (fun e => h.ne E e.symm rfl)).trans h.blk
  exact ⟨by rw [blk_cell hb1]; rfl, blk_frozen hb1 3⟩

theorem estr23 (s : ByteArray) (E : Nat) (v : Value) (bs : List Int) (w : World) (h : EncIs w E v bs) (hl : bs.length ≤ 549755813888) (hs : s.size ≤ 65536) :
    Calls Yba.prog 23 #[.pointer (some ⟨E, 0, none⟩), .string s] w fun e w' => e = .returned (.tuple #[]) ∧ ∃ v', EncIs w' E v' (bs ++ (uvI 10 s.size ++ strI s)) ∧ EGrow w w' E v v' := by
  have c3 : w.cell? ⟨E, 3, none⟩ = some v := by rw [blk_cell h.blk]; rfl
  go_enter Yba.func23, Yba.ntmps23
  go_wp2_with fail
  refine (astr27 s v bs w h.row hl hs).mono ?_
  rintro e w1 ⟨v1, rfl, h1, g1⟩
  obtain ⟨a1, n1, k1, rfl⟩ := h1.isSlice
  have st := enc_step h h1 g1
  obtain ⟨c31, f31⟩ := enc_cell h g1
  clear h1 g1 c3
  go_wp2
  go_end0
  exact ⟨rfl, _, st.1, st.2⟩

theorem euv24 (x : Int) (hx : 0 ≤ x) (hx2 : x < 18446744073709551616) (E : Nat) (v : Value) (bs : List Int) (w : World) (h : EncIs w E v bs) (hl : bs.length ≤ 549755813888) :
    Calls Yba.prog 24 #[.pointer (some ⟨E, 0, none⟩), .int .u64 x] w fun e w' => e = .returned (.tuple #[]) ∧ ∃ v', EncIs w' E v' (bs ++ uvI 10 x) ∧ EGrow w w' E v v' := by
  have c3 : w.cell? ⟨E, 3, none⟩ = some v := by rw [blk_cell h.blk]; rfl
  go_enter Yba.func24, Yba.ntmps24
  go_wp2_with fail
  refine (uv26 x hx (by omega) v bs w h.row (by omega)).mono ?_
  rintro e w1 ⟨v1, rfl, h1, g1⟩
  obtain ⟨a1, n1, k1, rfl⟩ := h1.isSlice
  have st := enc_step h h1 g1
  obtain ⟨c31, f31⟩ := enc_cell h g1
  clear h1 g1 c3
  go_wp2
  go_end0
  exact ⟨rfl, _, st.1, st.2⟩

/-- the directories of a slice (elements of two cells): element i holds dv i, io i -/
def DirsAt (w : World) (a : Option Addr) (n : Nat) (dv io : Nat → Int) : Prop :=
  ∀ i, i < n → ∃ b off, a = some ⟨b, off, none⟩ ∧ b < w.heap.size ∧ w.cell? ⟨b, off + i * 2, none⟩ = some (.int .u64 (dv i)) ∧ w.cell? ⟨b, off + i * 2 + 1, none⟩ = some (.int .u64 (io i)) ∧
    0 ≤ dv i ∧ dv i < 18446744073709551616 ∧ 0 ≤ io i ∧ io i < 18446744073709551616

/-- the bytes of the first k directories -/
def flatD (dv io : Nat → Int) : Nat → List Int
  | 0 => []
  | k + 1 => flatD dv io k ++ (uvI 10 (dv k) ++ uvI 10 (io k))

theorem flatD_len (dv io : Nat → Int) : ∀ k, (flatD dv io k).length ≤ 22 * k := by
  intro k
  induction k with
  | zero => simp [flatD]
  | succ k ih =>
    have h1 := uvI_len 10 (dv k)
    have h2 := uvI_len 10 (io k)
    simp [flatD]
    omega

theorem DirsAt.egrow {w w' : World} {a : Option Addr} {n : Nat} {dv io : Nat → Int} {E : Nat} {v v' : Value} (h : DirsAt w a n dv io) (hg : EGrow w w' E v v') (hne : 0 < n → ∀ x, a = some x → x.block ≠ E ∧ some x.block ≠ v.ownBlock) : DirsAt w' a n dv io := by
  intro i hi
  obtain ⟨b, off, e, hlt, h1, h2, r⟩ := h i hi
  have hk := hne (by omega) _ e
  have hb : w'.heap[b]? = w.heap[b]? := hg.block b hlt hk.1 hk.2
  exact ⟨b, off, e, Nat.lt_of_lt_of_le hlt hg.size, by rw [World.cell?_of_block (w := w) hb]; exact h1, by rw [World.cell?_of_block (w := w) hb]; exact h2, r⟩

theorem place16 (boot : ByteArray) (a : Option Addr) (n c : Nat) (dv io : Nat → Int) (E : Nat) (v : Value) (bs : List Int) (w : World) (h : EncIs w E v bs) (hl : bs.length ≤ 1048576) (hb : boot.size ≤ 65536) (hn : n ≤ 1024)
    (hd : DirsAt w a n dv io) (hne : 0 < n → ∀ x, a = some x → x.block ≠ E ∧ some x.block ≠ v.ownBlock) :
    Calls Yba.prog 16 #[.pointer (some ⟨E, 0, none⟩), .agg #[.string boot, .slice a n c]] w fun e w' => e = .returned (.tuple #[]) ∧
      ∃ v', EncIs w' E v' (bs ++ ((uvI 10 boot.size ++ strI boot) ++ uvI 10 n ++ flatD dv io n)) ∧ EGrow w w' E v v' := by
  have u1 := uvI_len 10 boot.size
  have u2 := uvI_len 10 n
  have u3 := strI_len boot
  go_enter Yba.func16, Yba.ntmps16
  go_wp2_with fail
  refine (estr23 boot E v bs _ (h.alloc _) (by omega) hb).mono ?_
  rintro e w1 ⟨rfl, v1, h1, g1⟩
  have hE := h.lt
  have hp : w1.heap[w.heap.size]? = some (.cells #[.string boot, .slice a n c] 35 (0, 0)) := by
    refine (g1.block w.heap.size (by simp) (by omega) ?_).trans (Go.Deep.blk_alloc_new _ _)
    intro hx
    have := h.row.lt _ hx.symm
    omega
  have hnv1 : ∀ k, v1.ownBlock = some k → k ≠ w.heap.size := by
    intro k hk
    rcases g1.own with e | ⟨j, e, hj⟩
    · have := h.row.lt k (by rw [← e]; exact hk)
      omega
    · rw [hk] at e; cases e; simp at hj; omega
  have g1' := g1.of_alloc
  have p1 : w1.cell? ⟨w.heap.size, 1, none⟩ = some (.slice a n c) := by rw [blk_cell hp]; rfl
  clear g1
  go_wp2_with fail
  refine (euv24 n (by omega) (by omega) E v1 _ w1 h1 (by simp; omega)).mono ?_
  rintro e w2 ⟨rfl, v2, h2, g2⟩
  have hp2 : w2.heap[w.heap.size]? = some (.cells #[.string boot, .slice a n c] 35 (0, 0)) := by
    have hs := (Array.getElem?_eq_some_iff.1 hp).1
    exact (g2.block w.heap.size hs (by omega) (fun hx => hnv1 _ hx.symm rfl)).trans hp
  have p2 : w2.cell? ⟨w.heap.size, 1, none⟩ = some (.slice a n c) := by rw [blk_cell hp2]; rfl
  have g2' : EGrow w w2 E v v2 := g1'.trans g2
  clear p1 g1' g2 hp hp2 h1 hnv1
  go_wp2
  go_loopw [19, 5] (fun i _ wr => ∃ (k : Nat) (vk : Value), k ≤ n ∧ i = .int .i64 k ∧ EncIs wr E vk (bs ++ ((uvI 10 boot.size ++ strI boot) ++ uvI 10 n ++ flatD dv io k)) ∧ EGrow w wr E v vk) (fun i _ _ => n - (intOf i).toNat)
  case atStart => exact ⟨0, v2, Nat.zero_le _, rfl, by simpa [flatD] using h2, g2'⟩
  case round =>
    obtain ⟨k, vk, hk, rfl, hek, hgk⟩ := hrel
    have hfl := flatD_len dv io k
    by_cases hlt : k < n
    · obtain ⟨b, off, rfl, hblt, hc1, hc2, hd1, hd2, hd3, hd4⟩ := hd.egrow hgk hne k hlt
      have hlt' : (k : Int) < (n : Int) := by omega
      clear hd hne
      go_wp2_with fail
      refine (euv24 (dv k) hd1 hd2 E vk _ _ (hek.alloc _) (by simp; omega)).mono ?_
      rintro e w3 ⟨rfl, v3, h3, g3⟩
      have hp3 : w3.cell? ⟨wr.heap.size, 1, none⟩ = some (.int .u64 (io k)) := by
        have hEr := hek.lt
        have : w3.heap[wr.heap.size]? = some (.cells #[.int .u64 (dv k), .int .u64 (io k)] 46 (0, 0)) := by
          refine (g3.block wr.heap.size (by simp) (by omega) ?_).trans (Go.Deep.blk_alloc_new _ _)
          intro hx
          have := hek.row.lt _ hx.symm
          omega
        rw [blk_cell this]; rfl
      have g3' := hgk.trans g3.of_alloc
      have hul := uvI_len 10 (dv k)
      clear hc1 hc2 hblt hek hgk g3 p2 h2 g2'
      go_wp2_with fail
      refine (euv24 (io k) hd3 hd4 E v3 _ w3 h3 (by simp; omega)).mono ?_
      rintro e w4 ⟨rfl, v4, h4, g4⟩
      have g4' := g3'.trans g4
      have h4' : EncIs w4 E v4 (bs ++ ((uvI 10 boot.size ++ strI boot) ++ uvI 10 n ++ flatD dv io (k + 1))) := by simpa [flatD] using h4
      clear h3 g3' h4 g4 hp3
      go_wp2
      go_roundw
      case rel => exact ⟨k + 1, v4, by omega, by go_num, h4', g4'⟩
      case measure => simp [intOf]; omega
    · go_wp2
      go_end0
      have hkn : k = n := by omega
      subst hkn
      exact ⟨rfl, vk, hek, hgk⟩


theorem DirsAt.grow {w w' : World} {a : Option Addr} {n : Nat} {dv io : Nat → Int} {v v' : Value} (h : DirsAt w a n dv io) (hg : Grow w w' v v') (hne : 0 < n → ∀ x, a = some x → some x.block ≠ v.ownBlock) : DirsAt w' a n dv io := by
  intro i hi
  obtain ⟨b, off, e, hlt, h1, h2, r⟩ := h i hi
  have hk := hne (by omega) _ e
  have hb : w'.heap[b]? = w.heap[b]? := hg.block b hlt hk
  exact ⟨b, off, e, Nat.lt_of_lt_of_le hlt hg.size, by rw [World.cell?_of_block (w := w) hb]; exact h1, by rw [World.cell?_of_block (w := w) hb]; exact h2, r⟩

theorem want17 (boot : ByteArray) (a : Option Addr) (n c : Nat) (dv io : Nat → Int) (v : Value) (bs : List Int) (w : World) (h : RowAt w 5 v (bs.map bv)) (hl : bs.length ≤ 1048576) (hb : boot.size ≤ 65536) (hn : n ≤ 1024)
    (hd : DirsAt w a n dv io) (hne : 0 < n → ∀ x, a = some x → some x.block ≠ v.ownBlock) :
    Calls Yba.prog 17 #[v, .string boot, .slice a n c] w fun e w' => ∃ v', e = .returned v' ∧ RowAt w' 5 v' ((bs ++ ((uvI 10 boot.size ++ strI boot) ++ uvI 10 n ++ flatD dv io n)).map bv) ∧ Grow w w' v v' := by
  have u1 := uvI_len 10 boot.size
  have u2 := uvI_len 10 n
  have u3 := strI_len boot
  go_enter Yba.func17, Yba.ntmps17
  go_wp2_with fail
  refine (uv25 boot.size (by omega) (by omega) v bs w h (by omega)).mono ?_
  rintro e w1 ⟨v1, rfl, h1, g1⟩
  have hsrc : Src Yba.prog 1 9 (.string boot) boot.size (byteCells boot) w1 := Src.ofString _ Yba.underlying9 boot
  go_wp2_with (first | (at_builtin; go_must (refine wpList_append_row _ rfl _ _ 32 9 rfl 5 (.int .u8 0) 1 Yba.underlying32 info5 rfl _ _ rfl h1 _ rfl _ _ hsrc ?h1 ?h2 ?_)) | fail)
  case h1 => simp; omega
  case h2 => simp; omega
  intro v2 w2 h2 g2
  have g2' : Grow w w2 v v2 := g1.trans g2
  have h2' : RowAt w2 5 v2 ((bs ++ (uvI 10 boot.size ++ strI boot)).map bv) := by rw [strI_cells] at h2; simpa using h2
  clear h1 g1 h2 g2 hsrc
  go_wp2_with fail
  refine (uv25 n (by omega) (by omega) v2 _ w2 h2' (by simp; omega)).mono ?_
  rintro e w3 ⟨v3, rfl, h3, g3⟩
  have g3' : Grow w w3 v v3 := g2'.trans g3
  clear g2' h2' g3
  go_wp2
  go_loopw [0, 7] (fun b i wr => ∃ (k : Nat), k ≤ n ∧ i = .int .i64 k ∧ RowAt wr 5 b ((bs ++ ((uvI 10 boot.size ++ strI boot) ++ uvI 10 n ++ flatD dv io k)).map bv) ∧ Grow w wr v b) (fun _ i _ => n - (intOf i).toNat)
  case atStart => exact ⟨0, Nat.zero_le _, rfl, by simpa [flatD] using h3, g3'⟩
  case round =>
    obtain ⟨k, hk, rfl, hrk, hgk⟩ := hrel
    have hfl := flatD_len dv io k
    by_cases hlt : k < n
    · obtain ⟨b, off, rfl, hblt, hc1, hc2, hd1, hd2, hd3, hd4⟩ := hd k hlt
      have hcb := hd.grow hgk hne k hlt
      obtain ⟨b', off', eb, hblt', hc1', hc2', _⟩ := hcb
      cases eb
      have hlt' : (k : Int) < (n : Int) := by omega
      have hul := uvI_len 10 (dv k)
      have hbv : some b ≠ v.ownBlock := hne (by omega) _ rfl
      clear hd hc1 hc2 h3 g3'
      go_wp2_with fail
      refine (uv25 (dv k) hd1 (by omega) _ _ wr hrk (by simp; omega)).mono ?_
      rintro e w4 ⟨v4, rfl, h4, g4⟩
      have g4' := hgk.trans g4
      have hc24 : w4.cell? ⟨b, off + k * 2 + 1, none⟩ = some (.int .u64 (io k)) := by
        rw [World.cell?_of_block (w := w) (a := ⟨b, off + k * 2 + 1, none⟩) (g4'.block b hblt hbv)]
        rw [World.cell?_of_block (w := w) (a := ⟨b, off + k * 2 + 1, none⟩) (hgk.block b hblt hbv)] at hc2'
        exact hc2'
      clear hc1' hc2' hrk hgk g4 hne
      go_wp2_with fail
      refine (uv25 (io k) hd3 (by omega) v4 _ w4 h4 (by simp; omega)).mono ?_
      rintro e w5 ⟨v5, rfl, h5, g5⟩
      have g5' := g4'.trans g5
      have h5' : RowAt w5 5 v5 ((bs ++ ((uvI 10 boot.size ++ strI boot) ++ uvI 10 n ++ flatD dv io (k + 1))).map bv) := by simpa [flatD] using h5
      clear h4 g4' h5 g5 hc24
      go_wp2
      go_roundw
      case rel => exact ⟨k + 1, by omega, by go_num, h5', g5'⟩
      case measure => simp [intOf]; omega
    · go_wp2
      go_ret
      have hkn : k = n := by omega
      subst hkn
      exact ⟨_, rfl, hrk, hgk⟩

end Go.Proofs.Ybulkbxns
