/- LawS3696CSet: the walk. -/
import Derived.Test.YbulkbxneSetB
import Derived.LaidEqlPtr
namespace Go.Proofs.Ybulkbxne
open Go.RowKit
set_option maxRecDepth 100000
set_option maxHeartbeats 1600000
set_option linter.unusedVariables false
set_option linter.unusedSimpArgs false

theorem info58 : (Yba.prog.info? 58).isSome = true := by kernel_rfl
theorem neq_same (a : Addr) (w : World) : (binOp .neq 28 (.pointer (some a)) (.pointer (some a))).run Yba.prog w = .ok (.bool false) w := by
  obtain ⟨j, hj⟩ := Option.isSome_iff_exists.1 info58
  have h : ∀ d : Nat, (Op.equalIn (d + 1) 28 (.pointer (some a)) (.pointer (some a))).run Yba.prog w = .ok true w := fun d => by
    simp [Op.equalIn, run_underlying Yba.underlying28, sizeOf, typeInfo, hj, run_sameAddr_same]
  simp only [binOp]
  simp [Op.equal, Op.maxDepth, h 9999]

theorem pstore_blk (v m : Nat) (s : ByteArray) (rg : Bool) (p q : Option Addr) (n g : Nat) (w : World) (hv : w.heap[v]? = some (.cells (varC s rg p q 0) 53 (0, 0))) (hm : w.heap[m]? = some (.cells (matC n g) 58 (0, 0))) :
    Calls Yba.prog 9 #[.pointer (some ⟨v, 2, none⟩), .pointer (some ⟨m, 0, none⟩)] w fun e w' => e = .returned (.tuple #[]) ∧
      w'.heap[v]? = some (.cells (varC s rg (some ⟨m, 0, none⟩) q 0) 53 (0, 0)) ∧ Touch v w w' := by
  refine (pstore ⟨v, 2, none⟩ ⟨m, 0, none⟩ (.pointer p) (.int .i64 1) w (by rw [cell_of_blk hv]; rfl) (frozen_of_blk hv 2) (by rw [cell_of_blk hm]; rfl)).mono ?_
  rintro e w' ⟨rfl, rfl⟩
  refine ⟨rfl, ?_, (Touch.refl v w).setCell _ _⟩
  rw [blk_setCell_same _ _ _ _ _ _ hv]
  simp [varC]

theorem value_blk (v b : Nat) (s : ByteArray) (rg : Bool) (q : Option Addr) (n g : Nat) (w : World) (hv : w.heap[v]? = some (.cells (varC s rg (some ⟨b, 0, none⟩) q 0) 53 (0, 0))) (hb : w.heap[b]? = some (.cells (matC n g) 58 (0, 0))) :
    Calls Yba.prog 11 #[.pointer (some ⟨v, 0, none⟩)] w fun e w' => e = .returned (.pointer (some ⟨b, 0, none⟩)) ∧ w' = w :=
  value_any v b _ w (by rw [cell_of_blk hv]; rfl) hb rfl

/-- what stands ahead of 'v.set(m2)': the variable's block v, the two matrices, all else that is asked -/
structure Ready (w W : World) (s : ByteArray) (rg : Bool) (q : Option Addr) (a0 : Option Addr) (l0 : Nat) (f0 : Nat → Nat) (a1 : Option Addr) (l1 : Nat) (f1 : Nat → Nat) (v m1 g1 m2 g2 : Nat) : Prop where
  below : Below w.heap.size w W
  hv : W.heap[v]? = some (.cells (varC s rg (some ⟨m1, 0, none⟩) q 0) 53 (0, 0))
  r1 : W.heap[g1]? = some (.cells (rowF f0 l0) 25 (0, 0))
  r2 : W.heap[g2]? = some (.cells (rowF f1 l1) 25 (0, 0))
  x1 : W.heap[m1]? = some (.cells (matC l0 g1) 58 (0, 0))
  x2 : W.heap[m2]? = some (.cells (matC l1 g2) 58 (0, 0))
  n1 : m1 ≠ v
  n2 : m2 ≠ v
  n3 : g1 ≠ v
  n4 : g2 ≠ v
  le : w.heap.size ≤ v

theorem Ready.touch {w W W' : World} {s : ByteArray} {rg : Bool} {q q' : Option Addr} {a0 : Option Addr} {l0 : Nat} {f0 : Nat → Nat} {a1 : Option Addr} {l1 : Nat} {f1 : Nat → Nat} {v m1 g1 m2 g2 : Nat} (h : Ready w W s rg q a0 l0 f0 a1 l1 f1 v m1 g1 m2 g2) (t : Touch v W W') :
    Below w.heap.size w W' ∧ W'.heap[g1]? = some (.cells (rowF f0 l0) 25 (0, 0)) ∧ W'.heap[g2]? = some (.cells (rowF f1 l1) 25 (0, 0)) ∧ W'.heap[m1]? = some (.cells (matC l0 g1) 58 (0, 0)) ∧ W'.heap[m2]? = some (.cells (matC l1 g2) 58 (0, 0)) :=
  ⟨h.below.trans (t.below h.le), (t.block _ h.n3).trans h.r1, (t.block _ h.n4).trans h.r2, (t.block _ h.n1).trans h.x1, (t.block _ h.n2).trans h.x2⟩

theorem walk_short (s : ByteArray) (rg hg : Bool) (a0 : Option Addr) (l0 c0 : Nat) (f0 : Nat → Nat) (a1 : Option Addr) (l1 c1 : Nat) (f1 : Nat → Nat) (a2 : Option Addr) (l2 c2 : Nat) (f2 : Nat → Nat) (w : World)
    (h0 : l0 ≤ 1024) (h1 : l1 ≤ 1024) (h2 : l2 ≤ 1024) (i0 : IsF w a0 l0 f0) (i1 : IsF w a1 l1 f1) (i2 : IsF w a2 l2 f2) :
    Calls Yba.prog 4 #[.string s, .bool rg, .bool hg, .slice a0 l0 c0, .slice a1 l1 c1, .slice a2 l2 c2] w fun e w' => e = .returned (.bool true) ∧ Below w.heap.size w w' := by
  have k0 : (l0 : Int) ≤ 1024 := by omega
  have k1 : (l1 : Int) ≤ 1024 := by omega
  have k2 : (l2 : Int) ≤ 1024 := by omega
  go_enter Yba.func4, Yba.ntmps4
  go_wp2_with fail
  refine (cmat_blk a0 l0 c0 f0 w h0 i0).mono ?_
  rintro e w1 ⟨rfl, hr1, hm1, hs1, hb1⟩
  have HR1 : Hid (w1.heap[w.heap.size]? = some (.cells (rowF f0 l0) 25 (0, 0))) := hr1
  have HM1 : Hid (w1.heap[w.heap.size + 1]? = some (.cells (matC l0 w.heap.size) 58 (0, 0))) := hm1
  have HS1 : Hid (w1.heap.size = w.heap.size + 2) := hs1
  clear hr1 hm1 hs1
  have j1 := i1.later hb1
  have j2 := i2.later hb1
  go_wp2_with fail
  refine (cmat_blk a1 l1 c1 f1 w1 h1 j1).mono ?_
  rintro e w2 ⟨rfl, hr2, hm2, hs2, hb2⟩
  have HR2 : Hid (w2.heap[w1.heap.size]? = some (.cells (rowF f1 l1) 25 (0, 0))) := hr2
  have HM2 : Hid (w2.heap[w1.heap.size + 1]? = some (.cells (matC l1 w1.heap.size) 58 (0, 0))) := hm2
  have HS2 : Hid (w2.heap.size = w1.heap.size + 2) := hs2
  clear hr2 hm2 hs2
  have HR1' : Hid (w2.heap[w.heap.size]? = some (.cells (rowF f0 l0) 25 (0, 0))) := (hb2.block _ (by have := HS1.out; omega)).trans HR1.out
  have HM1' : Hid (w2.heap[w.heap.size + 1]? = some (.cells (matC l0 w.heap.size) 58 (0, 0))) := (hb2.block _ (by have := HS1.out; omega)).trans HM1.out
  have hb2' : Below w.heap.size w w2 := hb1.trans (hb2.mono (by have := HS1.out; omega))
  have j2' := i2.later hb2'
  clear HR1 HM1
  go_wp2_with fail
  refine (pstore_blk w2.heap.size (w.heap.size + 1) s rg none none l0 w.heap.size _ ?hv ?hm).mono ?_
  case hv => exact Go.Deep.blk_alloc_new _ _
  case hm => exact (Go.Deep.blk_alloc_lt _ _ _ (by have := HS1.out; have := HS2.out; omega)).trans HM1'.out
  rintro e w3 ⟨rfl, hv3, ht3⟩
  have R3 : Ready w w3 s rg none a0 l0 f0 a1 l1 f1 w2.heap.size (w.heap.size + 1) w.heap.size (w1.heap.size + 1) w1.heap.size := by
    have e1 := HS1.out
    have e2 := HS2.out
    refine ⟨(hb2'.alloc (by omega) _).trans (ht3.below (by omega)), hv3, ?_, ?_, ?_, ?_, by omega, by omega, by omega, by omega, by omega⟩
    · exact (ht3.block _ (by omega)).trans ((Go.Deep.blk_alloc_lt _ _ _ (by omega)).trans HR1'.out)
    · exact (ht3.block _ (by omega)).trans ((Go.Deep.blk_alloc_lt _ _ _ (by omega)).trans HR2.out)
    · exact (ht3.block _ (by omega)).trans ((Go.Deep.blk_alloc_lt _ _ _ (by omega)).trans HM1'.out)
    · exact (ht3.block _ (by omega)).trans ((Go.Deep.blk_alloc_lt _ _ _ (by omega)).trans HM2.out)
  have hlt3 : w2.heap.size < w3.heap.size := by rw [ht3.size]; simp
  have j2'' := i2.later R3.below
  clear hv3 ht3 hb1 hb2 hb2' j1 j2 j2' HR1' HM1' HR2 HM2
  cases hg
  case false =>
    go_wp2_with fail
    refine (set_blk w2.heap.size (w1.heap.size + 1) s rg _ _ l1 w1.heap.size w3 R3.hv R3.x2).mono ?_
    rintro e w5 ⟨rfl, hv5, ht5⟩
    obtain ⟨B5, r15, r25, m15, m25⟩ := R3.touch (q' := none) ht5
    go_wp2_with fail
    refine (value_blk w2.heap.size (w1.heap.size + 1) s rg none l1 w1.heap.size w5 hv5 m25).mono ?_
    rintro e w6 ⟨rfl, hw6⟩
    subst hw6
    have hnp := neq_same
    have d0 : w6.cell? ⟨w2.heap.size, 0, none⟩ = some (.string s) := by rw [cell_of_blk hv5]; rfl
    have d1 : w6.cell? ⟨w2.heap.size, 1, none⟩ = some (.bool rg) := by rw [cell_of_blk hv5]; rfl
    have d3 : w6.cell? ⟨w2.heap.size, 3, none⟩ = some (.pointer none) := by rw [cell_of_blk hv5]; rfl
    have d4 : w6.cell? ⟨w2.heap.size, 4, none⟩ = some (.pointer none) := by rw [cell_of_blk hv5]; rfl
    have d7 : w6.cell? ⟨w2.heap.size, 7, none⟩ = some (.pointer none) := by rw [cell_of_blk hv5]; rfl
    go_wp2_with fail
    refine (trylock_blk w2.heap.size s rg _ _ w6 hv5).mono ?_
    rintro e w7 ⟨rfl, hv7, ht7⟩
    go_wp2_with fail
    refine (unlock_blk w2.heap.size s rg _ _ w7 hv7).mono ?_
    rintro e w8 ⟨rfl, hv8, ht8⟩
    have e1 := HS1.out
    have e2 := HS2.out
    have B8 : Below w.heap.size w w8 := B5.trans ((ht7.below (by omega)).trans (ht8.below (by omega)))
    have r18 := (ht8.block w.heap.size (by omega)).trans ((ht7.block w.heap.size (by omega)).trans r15)
    have r28 := (ht8.block w1.heap.size (by omega)).trans ((ht7.block w1.heap.size (by omega)).trans r25)
    have m18 := (ht8.block (w.heap.size + 1) (by omega)).trans ((ht7.block (w.heap.size + 1) (by omega)).trans m15)
    have m28 := (ht8.block (w1.heap.size + 1) (by omega)).trans ((ht7.block (w1.heap.size + 1) (by omega)).trans m25)
    clear e1 e2 r15 r25 m15 m25 d0 d1 d3 d4 d7 hv5 hv7 ht5 ht7 ht8 B5
    go_wp2_with fail
    refine (csame_blk (w1.heap.size + 1) w1.heap.size l1 a1 c1 f1 w8 h1 m28 r28 (i1.later B8)).mono ?_
    rintro e w9 ⟨rfl, q, rfl⟩
    go_wp2_with fail
    refine (csame_blk (w.heap.size + 1) w.heap.size l0 a0 c0 f0 _ h0 ?m ?r ?i).mono ?_
    case m => simpa using m18
    case r => simpa using r18
    case i => exact i0.later (below_drewN B8 q)
    rintro e w10 ⟨rfl, q', rfl⟩
    go_wp2
    go_ret
    exact ⟨rfl, below_drewN B8 _⟩
  case true =>
    go_wp2_with fail
    refine (cmat_blk a2 l2 c2 f2 w3 h2 j2'').mono ?_
    rintro e w4 ⟨rfl, _, _, hs4, hb4⟩
    have hv4 : w4.heap[w2.heap.size]? = some (.cells (varC s rg (some ⟨w.heap.size + 1, 0, none⟩) none 0) 53 (0, 0)) := (hb4.block _ hlt3).trans R3.hv
    have c47 : w4.cell? ⟨w2.heap.size, 7, none⟩ = some (.pointer none) := by rw [cell_of_blk hv4]; rfl
    have f47 : w4.frozen? ⟨w2.heap.size, 7, none⟩ = false := frozen_of_blk hv4 7
    have R4 : Ready w (w4.setCell ⟨w2.heap.size, 7, none⟩ (.pointer (some ⟨w3.heap.size + 1, 0, none⟩))) s rg (some ⟨w3.heap.size + 1, 0, none⟩) a0 l0 f0 a1 l1 f1 w2.heap.size (w.heap.size + 1) w.heap.size (w1.heap.size + 1) w1.heap.size := by
      have e1 := HS1.out
      have e2 := HS2.out
      have t4 := (Touch.refl w2.heap.size w4).setCell 7 (.pointer (some ⟨w3.heap.size + 1, 0, none⟩))
      have hle := R3.below.size
      refine ⟨(R3.below.trans (hb4.mono (by omega))).trans (t4.below (by omega)), ?_, ?_, ?_, ?_, ?_, by omega, by omega, by omega, by omega, by omega⟩
      · rw [blk_setCell_same _ _ _ _ _ _ hv4]; simp [varC]
      · exact (t4.block _ R3.n3).trans ((hb4.block _ (by omega)).trans R3.r1)
      · exact (t4.block _ R3.n4).trans ((hb4.block _ (by omega)).trans R3.r2)
      · exact (t4.block _ R3.n1).trans ((hb4.block _ (by omega)).trans R3.x1)
      · exact (t4.block _ R3.n2).trans ((hb4.block _ (by omega)).trans R3.x2)
    clear hv4 hs4 hb4 R3 j2'' hlt3
    go_wp2_with fail
    refine (set_blk w2.heap.size (w1.heap.size + 1) s rg _ _ l1 w1.heap.size _ R4.hv R4.x2).mono ?_
    rintro e w5 ⟨rfl, hv5, ht5⟩
    obtain ⟨B5, r15, r25, m15, m25⟩ := R4.touch (q' := none) ht5
    clear c47 f47
    go_wp2_with fail
    refine (value_blk w2.heap.size (w1.heap.size + 1) s rg none l1 w1.heap.size w5 hv5 m25).mono ?_
    rintro e w6 ⟨rfl, hw6⟩
    subst hw6
    have hnp := neq_same
    have d0 : w6.cell? ⟨w2.heap.size, 0, none⟩ = some (.string s) := by rw [cell_of_blk hv5]; rfl
    have d1 : w6.cell? ⟨w2.heap.size, 1, none⟩ = some (.bool rg) := by rw [cell_of_blk hv5]; rfl
    have d3 : w6.cell? ⟨w2.heap.size, 3, none⟩ = some (.pointer none) := by rw [cell_of_blk hv5]; rfl
    have d4 : w6.cell? ⟨w2.heap.size, 4, none⟩ = some (.pointer none) := by rw [cell_of_blk hv5]; rfl
    have d7 : w6.cell? ⟨w2.heap.size, 7, none⟩ = some (.pointer none) := by rw [cell_of_blk hv5]; rfl
    go_wp2_with fail
    refine (trylock_blk w2.heap.size s rg _ _ w6 hv5).mono ?_
    rintro e w7 ⟨rfl, hv7, ht7⟩
    go_wp2_with fail
    refine (unlock_blk w2.heap.size s rg _ _ w7 hv7).mono ?_
    rintro e w8 ⟨rfl, hv8, ht8⟩
    have e1 := HS1.out
    have e2 := HS2.out
    have B8 : Below w.heap.size w w8 := B5.trans ((ht7.below (by omega)).trans (ht8.below (by omega)))
    have r18 := (ht8.block w.heap.size (by omega)).trans ((ht7.block w.heap.size (by omega)).trans r15)
    have r28 := (ht8.block w1.heap.size (by omega)).trans ((ht7.block w1.heap.size (by omega)).trans r25)
    have m18 := (ht8.block (w.heap.size + 1) (by omega)).trans ((ht7.block (w.heap.size + 1) (by omega)).trans m15)
    have m28 := (ht8.block (w1.heap.size + 1) (by omega)).trans ((ht7.block (w1.heap.size + 1) (by omega)).trans m25)
    clear e1 e2 r15 r25 m15 m25 d0 d1 d3 d4 d7 hv5 hv7 ht5 ht7 ht8 B5
    go_wp2_with fail
    refine (csame_blk (w1.heap.size + 1) w1.heap.size l1 a1 c1 f1 w8 h1 m28 r28 (i1.later B8)).mono ?_
    rintro e w9 ⟨rfl, q, rfl⟩
    go_wp2_with fail
    refine (csame_blk (w.heap.size + 1) w.heap.size l0 a0 c0 f0 _ h0 ?m ?r ?i).mono ?_
    case m => simpa using m18
    case r => simpa using r18
    case i => exact i0.later (below_drewN B8 q)
    rintro e w10 ⟨rfl, q', rfl⟩
    go_wp2
    go_ret
    exact ⟨rfl, below_drewN B8 _⟩

end Go.Proofs.Ybulkbxne
