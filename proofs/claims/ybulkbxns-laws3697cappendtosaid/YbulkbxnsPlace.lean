/- zzs3697cplace, bytes.Equal, AppendTo. -/
import Derived.Test.YbulkbxnsEnc
import Derived.Deep.QuietTactic
import Derived.BigQuiet
import Derived.RegionTactic
namespace Go.Proofs.Ybulkbxns
open Go.RowKit Go.Proofs.Own
set_option maxRecDepth 100000
set_option maxHeartbeats 800000
set_option linter.unusedVariables false
set_option linter.unusedSimpArgs false

theorem info46 : (Yba.prog.info? 46).map (fun i => (i.zero, i.size, i.bytes)) = some (some (.agg #[.int .u64 0, .int .u64 0]), 2, 16) := by kernel_rfl

theorem make33 (n : Nat) (hn : n ≤ 1024) (w : World) : (Instr.makeSlice 33 (.int .i64 (n : Int)) (.int .i64 (n : Int))).run Yba.prog w =
    .ok (.slice (some ⟨w.heap.size, 0, none⟩) n n) (w.alloc (.cells (madeCells #[.int .u64 0, .int .u64 0] (n * 2)) 46)) := by
  obtain ⟨i, hi, hzz⟩ := Option.map_eq_some_iff.1 info46
  simp only [Prod.mk.injEq] at hzz
  obtain ⟨hz, hs, hb⟩ := hzz
  have := run_make (P := Yba.prog) w 33 46 i _ Yba.underlying33 hi hz .i64 .i64 n n (by omega) (by omega) (by rw [hb]; omega) (by omega)
  simpa [hs, Value.cells] using this

theorem place15_nil (boot : ByteArray) (w : World) :
    Calls Yba.prog 15 #[.string boot, .slice none 0 0] w fun e w' => e = .returned (.agg #[.string boot, .slice none 0 0]) ∧ Below w.heap.size w w' := by
  have hnil := fun w => run_neq_slice_nil_any (P := Yba.prog) w 31 48 none 0 0 0 0 Yba.underlying31
  go_enter Yba.func15, Yba.ntmps15
  go_wp2
  exact bodyPost_ret (v := .agg #[.string boot, .slice none 0 0]) (by simp [results, Yba.results15, go_sem]) rfl ⟨rfl, ((Below.refl _ _).alloc (Nat.le_refl _) _).alloc (by simp) _⟩

/-- the row of the copied directories, the first k filled -/
def Filled (w : World) (R n k : Nat) (dv io : Nat → Int) : Prop :=
  ∃ g : Nat → Value, w.rowIs R 46 (n * 2) g ∧ ∀ j, j < k → g (j * 2) = .int .u64 (dv j) ∧ g (j * 2 + 1) = .int .u64 (io j)

theorem Filled.step {w : World} {R n k : Nat} {dv io : Nat → Int} (h : Filled w R n k dv io) :
    Filled ((w.setCell ⟨R, k * 2, none⟩ (.int .u64 (dv k))).setCell ⟨R, k * 2 + 1, none⟩ (.int .u64 (io k))) R n (k + 1) dv io := by
  obtain ⟨g, hg, hj⟩ := h
  refine ⟨_, (hg.set (k * 2) _).set (k * 2 + 1) _, fun j hjk => ?_⟩
  by_cases e : j = k
  · subst e
    simp
  · have := hj j (by omega)
    rw [if_neg (by omega), if_neg (by omega), if_neg (by omega), if_neg (by omega)]
    exact this

theorem Filled.cell {w : World} {R n k : Nat} {dv io : Nat → Int} (h : Filled w R n k dv io) {i : Nat} (hi : i < n * 2) : ∃ x, w.cell? ⟨R, i, none⟩ = some x := by
  obtain ⟨g, hg, hj⟩ := h
  exact ⟨_, hg.cell hi⟩
theorem Filled.frozen {w : World} {R n k : Nat} {dv io : Nat → Int} (h : Filled w R n k dv io) (i : Nat) : w.frozen? ⟨R, i, none⟩ = false := by
  obtain ⟨g, hg, hj⟩ := h
  exact hg.frozen i

theorem place15_some (boot : ByteArray) (a : Addr) (n c : Nat) (dv io : Nat → Int) (w : World) (hn : n ≤ 1024) (hd : DirsAt w (some a) n dv io) :
    Calls Yba.prog 15 #[.string boot, .slice (some a) n c] w fun e w' => e = .returned (.agg #[.string boot, .slice (some ⟨w.heap.size + 2, 0, none⟩) n n]) ∧ Below w.heap.size w w' ∧ DirsAt w' (some ⟨w.heap.size + 2, 0, none⟩) n dv io := by
  have hnil := fun w => run_neq_slice_nil_any (P := Yba.prog) w 31 48 (some a) n c 0 0 Yba.underlying31
  have hmk := make33 n hn
  go_enter Yba.func15, Yba.ntmps15
  go_wp2
  go_loopw [6] (fun i wr => ∃ k : Nat, k ≤ n ∧ i = .int .i64 k ∧ Filled wr (w.heap.size + 1 + 1) n k dv io ∧ wr.heap[w.heap.size + 1]? = some (.cells #[.string boot, .slice (some ⟨w.heap.size + 1 + 1, 0, none⟩) n n] 35 (0, 0)) ∧
      wr.heap[w.heap.size]? = some (.cells #[.string ⟨#[]⟩, .slice none 0 0] 35 (0, 0)) ∧ Below w.heap.size w wr) (fun i _ => n - (intOf i).toNat)
  case atStart =>
    refine ⟨0, Nat.zero_le _, rfl, ⟨fun i => if i % 2 = 0 then .int .u64 0 else .int .u64 0, ?_, fun j hj => absurd hj (by omega)⟩, ?_, ?_, ?_⟩
    · refine ⟨madeCells #[.int .u64 0, .int .u64 0] (n * 2), ?_, size_madeCells _ _, fun i hi => ?_⟩
      · have := Go.Deep.blk_alloc_new ((w.alloc (Obj.cells #[Value.string { data := #[] }, Value.slice none 0 0] 35)).alloc (Obj.cells #[Value.string boot, Value.slice (some { block := w.heap.size + 1 + 1, off := 0 }) n n] 35)) (Obj.cells (madeCells #[Value.int IntKind.u64 0, Value.int IntKind.u64 0] (n * 2)) 46)
        simpa using this
      · rcases Nat.mod_two_eq_zero_or_one i with h | h <;> simp [madeCells, hi, h]
    · rw [Go.Deep.blk_alloc_lt _ _ _ (by simp)]
      have := Go.Deep.blk_alloc_new (w.alloc (Obj.cells #[Value.string { data := #[] }, Value.slice none 0 0] 35)) (Obj.cells #[Value.string boot, Value.slice (some { block := w.heap.size + 1 + 1, off := 0 }) n n] 35)
      simpa using this
    · rw [Go.Deep.blk_alloc_lt _ _ _ (by simp; omega), Go.Deep.blk_alloc_lt _ _ _ (by simp), Go.Deep.blk_alloc_new]
    · exact (((Below.refl _ _).alloc (Nat.le_refl _) _).alloc (by simp) _).alloc (by simp; omega) _
  case round =>
    obtain ⟨k, hk, rfl, hF, hp, hr, hB⟩ := hrel
    by_cases hlt : k < n
    · obtain ⟨b, off, e, hblt, hc1, hc2, hd1, hd2, hd3, hd4⟩ := hd k hlt
      cases e
      have hlt' : (k : Int) < (n : Int) := by omega
      have g1 : wr.cell? ⟨b, off + k * 2, none⟩ = some (.int .u64 (dv k)) := by rw [hB.cell (p := ⟨b, off + k * 2, none⟩) hblt]; exact hc1
      have g2 : wr.cell? ⟨b, off + k * 2 + 1, none⟩ = some (.int .u64 (io k)) := by rw [hB.cell (p := ⟨b, off + k * 2 + 1, none⟩) hblt]; exact hc2
      have g3 : wr.cell? ⟨w.heap.size + 1, 1, none⟩ = some (.slice (some ⟨w.heap.size + 1 + 1, 0, none⟩) n n) := by rw [blk_cell hp]; rfl
      obtain ⟨x1, hx1⟩ := hF.cell (i := k * 2) (by omega)
      obtain ⟨x2, hx2⟩ := hF.cell (i := k * 2 + 1) (by omega)
      have f1 := hF.frozen (k * 2)
      have f2 := hF.frozen (k * 2 + 1)
      have HF : Hid (Filled wr (w.heap.size + 1 + 1) n k dv io) := hF
      have HP : Hid (wr.heap[w.heap.size + 1]? = some (.cells #[.string boot, .slice (some ⟨w.heap.size + 1 + 1, 0, none⟩) n n] 35 (0, 0))) := hp
      have HR : Hid (wr.heap[w.heap.size]? = some (.cells #[.string ⟨#[]⟩, .slice none 0 0] 35 (0, 0))) := hr
      clear hd hc1 hc2 hF hp hr hmk hnil
      go_wp2
      go_region
      go_wp2
      go_roundw
      case rel =>
        have e1 : (w.heap.size + 1) ≠ (w.heap.size + 1 + 1) := by omega
        have e2 : w.heap.size ≠ (w.heap.size + 1 + 1) := by omega
        exact ⟨k + 1, by omega, by go_num, HF.out.step, (Below.heap_setCell _ _ _ _ e1).trans ((Below.heap_setCell _ _ _ _ e1).trans HP.out), (Below.heap_setCell _ _ _ _ e2).trans ((Below.heap_setCell _ _ _ _ e2).trans HR.out),
          ((hB.setCell (p := ⟨w.heap.size + 1 + 1, k * 2, none⟩) (by show w.heap.size ≤ w.heap.size + 1 + 1; omega) _).setCell (p := ⟨w.heap.size + 1 + 1, k * 2 + 1, none⟩) (by show w.heap.size ≤ w.heap.size + 1 + 1; omega) _).drew⟩
      case measure => simp [intOf]; omega
    · have g3 : wr.cell? ⟨w.heap.size + 1, 1, none⟩ = some (.slice (some ⟨w.heap.size + 1 + 1, 0, none⟩) n n) := by rw [blk_cell hp]; rfl
      have g4 : wr.cell? ⟨w.heap.size + 1, 0, none⟩ = some (.string boot) := by rw [blk_cell hp]; rfl
      have g5 : wr.cell? ⟨w.heap.size, 0, none⟩ = some (.string ⟨#[]⟩) := by rw [blk_cell hr]; rfl
      have g6 : wr.cell? ⟨w.heap.size, 1, none⟩ = some (.slice none 0 0) := by rw [blk_cell hr]; rfl
      have f5 := blk_frozen hr 0
      have f6 := blk_frozen hr 1
      clear hmk hnil
      have hkn : k = n := by omega
      subst hkn
      go_wp2
      refine bodyPost_ret (v := .agg #[.string boot, .slice (some ⟨w.heap.size + 2, 0, none⟩) k k]) (by simp [results, Yba.results15, go_sem, g5, g6]) rfl ⟨rfl, ?_, ?_⟩
      · exact (hB.setCell (p := ⟨w.heap.size, 0, none⟩) (Nat.le_refl _) _).setCell (p := ⟨w.heap.size, 1, none⟩) (Nat.le_refl _) _
      · intro i hi
        obtain ⟨b, off, e, hblt, hc1, hc2, r⟩ := hd i hi
        obtain ⟨g, hg, hj⟩ := hF
        have hg' := (hg.setOther (a := ⟨w.heap.size, 0, none⟩) (by show w.heap.size + 1 + 1 ≠ w.heap.size; omega) (.string boot)).setOther (a := ⟨w.heap.size, 1, none⟩) (by show w.heap.size + 1 + 1 ≠ w.heap.size; omega) (.slice (some ⟨w.heap.size + 1 + 1, 0, none⟩) k k)
        refine ⟨w.heap.size + 2, 0, rfl, hg'.lt, ?_, ?_, r⟩
        · rw [Nat.zero_add, ← (hj i hi).1]; exact hg'.cell (by omega)
        · rw [Nat.zero_add, ← (hj i hi).2]; exact hg'.cell (by omega)

end Go.Proofs.Ybulkbxns
