/- LawS3696CSet: the atomic pointer's Load, Value, set, cmat. -/
import Derived.Test.YbulkbxneLocks
import Derived.Deep.OwnRows
import Derived.Laws.CopyRow
import Derived.Laws.IdiomCopy
import Derived.WalkSpells
import Derived.Deep.QuietTactic
import Derived.BigQuiet
namespace Go.Proofs.Ybulkbxne
open Go.RowKit
set_option maxRecDepth 100000
set_option maxHeartbeats 800000
set_option linter.unusedVariables false
set_option linter.unusedSimpArgs false

theorem Yba.info25 : (Yba.prog.info? 25).map (fun i => (i.zero, i.size, i.bytes)) = some (some (.float .f64 0), 1, 8) := by kernel_rfl
theorem Yba.size25 : (Yba.prog.info? 25).map (·.size) = some 1 := by kernel_rfl
theorem pload (a : Addr) (b : Nat) (c : Array Value) (w : World) (hc : w.cell? a = some (.pointer (some ⟨b, 0, none⟩))) (hb : w.heap[b]? = some (.cells c 58 (0, 0))) (hs : c.size = 5) :
    Calls Yba.prog 19 #[.pointer (some a)] w fun e w' => e = .returned (.pointer (some ⟨b, 0, none⟩)) ∧ w' = w := by
  have hcv := run_convert_matrix b c w hb hs
  have hl := run_call_loadP hc
  clear hb
  go_enter Yba.func19, Yba.ntmps19
  go_wp2
  go_ret
  exact ⟨rfl, rfl⟩

theorem value_any (v b : Nat) (c : Array Value) (w : World) (hc : w.cell? ⟨v, 2, none⟩ = some (.pointer (some ⟨b, 0, none⟩))) (hb : w.heap[b]? = some (.cells c 58 (0, 0))) (hs : c.size = 5) :
    Calls Yba.prog 11 #[.pointer (some ⟨v, 0, none⟩)] w fun e w' => e = .returned (.pointer (some ⟨b, 0, none⟩)) ∧ w' = w := by
  go_enter Yba.func11, Yba.ntmps11
  go_wp2_with (go_at_call 19; refine (pload ⟨v, 2, none⟩ b c _ hc hb hs).mono ?_; rintro e w' ⟨rfl, rfl⟩)
  go_ret
  exact ⟨rfl, rfl⟩

theorem set_any (v m : Nat) (x : Value) (u g : Value) (w : World) (h2 : w.cell? ⟨v, 2, none⟩ = some u) (h5 : w.cell? ⟨v, 5, none⟩ = some (.int .i32 0)) (h7 : w.cell? ⟨v, 7, none⟩ = some g)
    (z : ∀ i, w.frozen? ⟨v, i, none⟩ = false) (hm : w.cell? ⟨m, 0, none⟩ = some x) :
    Calls Yba.prog 10 #[.pointer (some ⟨v, 0, none⟩), .pointer (some ⟨m, 0, none⟩)] w fun e w' => e = .returned (.tuple #[]) ∧
      w' = (((w.setCell ⟨v, 5, none⟩ (.int .i32 1)).setCell ⟨v, 2, none⟩ (.pointer (some ⟨m, 0, none⟩))).setCell ⟨v, 7, none⟩ (.pointer none)).setCell ⟨v, 5, none⟩ (.int .i32 0) := by
  have z2 := z 2
  have z5 := z 5
  have z7 := z 7
  have h2' : (w.setCell ⟨v, 5, none⟩ (.int .i32 1)).cell? ⟨v, 2, none⟩ = some u := by rw [World.cell?_setCell_other _ _ _ _ (by simp)]; exact h2
  have hm' : (w.setCell ⟨v, 5, none⟩ (.int .i32 1)).cell? ⟨m, 0, none⟩ = some x := by rw [World.cell?_setCell_other _ _ _ _ (by simp)]; exact hm
  have z2' : (w.setCell ⟨v, 5, none⟩ (.int .i32 1)).frozen? ⟨v, 2, none⟩ = false := by rw [World.frozen?_setCell]; exact z2
  clear z
  go_enter_defers Yba.func10, Yba.ntmps10
  go_wp2_with (first
    | (go_at_call 18; refine (lock_free ⟨v, 5, none⟩ _ h5 z5).mono ?_; rintro e w' ⟨rfl, rfl⟩)
    | (go_at_call 9; refine (pstore ⟨v, 2, none⟩ ⟨m, 0, none⟩ _ _ _ h2' z2' hm').mono ?_; rintro e w' ⟨rfl, rfl⟩))
  refine leaves_cons (f := 13) (args := #[.pointer (some ⟨v, 5, none⟩)]) (by simp) (by simp [go_sem]) ?_
  refine (unlock_deferred ⟨v, 5, none⟩ .returning _ ?_ ?_).mono ?_
  · exact (World.cell?_setCell_other _ ⟨v, 7, none⟩ ⟨v, 5, none⟩ _ (by simp)).trans ((World.cell?_setCell_other _ ⟨v, 2, none⟩ ⟨v, 5, none⟩ _ (by simp)).trans (World.cell?_setCell_same w ⟨v, 5, none⟩ (.int .i32 1) h5))
  · simp [z5]
  rintro e u' w'' ⟨rfl, rfl, rfl⟩
  exact ⟨_, results_none rfl _ _ _, rfl, rfl⟩

/-- the copied row -/
def rowF (fs : Nat → Nat) (n : Nat) : Array Value := ((List.range n).map fun i => Value.float .f64 (fs i)).toArray

theorem run_copyF (a : Option Addr) (len cap : Nat) (fs : Nat → Nat) (ty : TypeId) (w : World) (hc : ∀ i, i < len → ∃ ad, a = some ad ∧ ad.block < w.heap.size ∧ w.cell? (ad.add i) = some (.float .f64 (fs i))) :
    (Builtin.copy_ #[24, 24] ty #[.slice (some ⟨w.heap.size, 0, none⟩) len len, .slice a len cap]).run Yba.prog (w.alloc (.cells (madeCells #[.float .f64 0] len) 25)) = .ok (goInt len) (w.alloc (.cells (rowF fs len) 25)) := by
  by_cases h0 : len = 0
  · subst h0
    rw [run_copy_none _ 24 24 ty 25 _ _ _ _ _ _ Yba.underlying24 Yba.size25 (by simp)]
    simp [madeCells, rowF, Array.range_zero']
  · obtain ⟨ad, rfl, hblk, _⟩ := hc 0 (by omega)
    have hcs : ((List.range len).map fun i => Value.float .f64 (fs i)).length = Nat.min len len := by simp
    rw [run_copy_row Yba.prog _ 24 24 ty 25 w.heap.size 0 len len ad len cap (madeCells #[.float .f64 0] len) 25 ((List.range len).map fun i => Value.float .f64 (fs i)) Yba.underlying24 Yba.size25
      (Go.Deep.blk_alloc_new _ _) hcs ?_ ?_ ?_]
    · congr 1
      · simp
      · unfold World.setRow World.alloc
        congr 1
        apply Array.ext_getElem?
        intro k
        simp only [Array.getElem?_modify, Array.getElem?_push]
        by_cases hk : k = w.heap.size
        · subst hk; simp [rowF, size_madeCells]
        · simp [hk, Ne.symm hk]
    · intro j v hj
      simp only [List.getElem?_map, List.getElem?_range] at hj
      by_cases hjl : j < len
      · simp [hjl] at hj
        obtain ⟨ad', e, _, hcell⟩ := hc j hjl
        obtain rfl : ad = ad' := by simpa using e
        rw [← hj, ← hcell]
        have : (ad.add j).block < w.heap.size := by unfold Addr.add; split <;> exact hblk
        exact World.cell?_alloc_lt w _ _ this
      · simp [hjl] at hj
    · simp [size_madeCells]
    · intro v hv
      simp at hv
      obtain ⟨i, _, rfl⟩ := hv
      rfl

theorem cmat_any (a : Option Addr) (len cap : Nat) (fs : Nat → Nat) (w : World) (hlen : len ≤ 1024) (hc : ∀ i, i < len → ∃ ad, a = some ad ∧ ad.block < w.heap.size ∧ w.cell? (ad.add i) = some (.float .f64 (fs i))) :
    Calls Yba.prog 8 #[.slice a len cap] w fun e w' => e = .returned (.pointer (some ⟨w.heap.size + 1, 0, none⟩)) ∧
      w' = (w.alloc (.cells (rowF fs len) 25)).alloc (.cells #[.int .i64 1, .int .i64 len, .int .u8 2, .slice none 0 0, .slice (some ⟨w.heap.size, 0, none⟩) len len] 58) := by
  have hmk := run_make_row' (P := Yba.prog) 24 25 (.float .f64 0) 8 Yba.underlying24 Yba.info25 rfl .i64 .i64 len (by omega) (by omega)
  have hcp := fun ty => run_copyF a len cap fs ty w hc
  clear hc
  go_enter Yba.func8, Yba.ntmps8
  go_wp2
  go_ret
  exact ⟨rfl, rfl⟩

theorem bits_any (n : Nat) (w : World) : (callFunc 22 #[.float .f64 n]).run Yba.prog w = .ok (.value (.int .u64 n)) w := by
  rw [run_callFunc_extern Yba.func22 (by kernel_rfl) (by kernel_rfl) (by kernel_rfl) (show Extern.find Yba.f22 = some Extern.MathFloatBits.float64bits by kernel_rfl)]
  rfl

theorem csame_any (m g n : Nat) (a : Option Addr) (cap : Nat) (fs : Nat → Nat) (w : World) (hn : n ≤ 1024)
    (m0 : w.cell? ⟨m, 0, none⟩ = some (.int .i64 1)) (m1 : w.cell? ⟨m, 1, none⟩ = some (.int .i64 n)) (m2 : w.cell? ⟨m, 2, none⟩ = some (.int .u8 2))
    (m3 : w.cell? ⟨m, 3, none⟩ = some (.slice none 0 0)) (m4 : w.cell? ⟨m, 4, none⟩ = some (.slice (some ⟨g, 0, none⟩) n n))
    (G : ∀ i, i < n → w.cell? ⟨g, i, none⟩ = some (.float .f64 (fs i)))
    (hc : ∀ i, i < n → ∃ b off, a = some ⟨b, off, none⟩ ∧ w.cell? ⟨b, off + i, none⟩ = some (.float .f64 (fs i))) :
    Calls Yba.prog 14 #[.pointer (some ⟨m, 0, none⟩), .slice a n cap] w fun e w' => e = .returned (.bool true) ∧ ∃ k, w' = w.drewN k := by
  have hnil := fun w => run_neq_slice_nil_any (P := Yba.prog) w 56 63 none 0 0 0 0 Yba.underlying56
  have hbits := bits_any
  go_enter Yba.func14, Yba.ntmps14
  go_wp2
  go_loopw [5] (fun i wr => ∃ k : Nat, k ≤ n ∧ i = .int .i64 k ∧ ∃ q, wr = w.drewN q) (fun i _ => n - (intOf i).toNat)
  case atStart => exact ⟨0, Nat.zero_le _, rfl, 0, rfl⟩
  case round =>
    obtain ⟨k, hk, rfl, q, rfl⟩ := hrel
    by_cases hlt : k < n
    · obtain ⟨b, off, rfl, hcell⟩ := hc k hlt
      have gcell := G k hlt
      have hlt' : (k : Int) < (n : Int) := by omega
      clear hc G
      go_wp2
      go_quiet (fail)
      go_wp2
      go_roundw
      case rel => exact ⟨k + 1, by omega, by go_num, _, rfl⟩
      case measure => simp [intOf]; omega
    · go_wp2
      go_ret
      exact ⟨rfl, _, rfl⟩
end Go.Proofs.Ybulkbxne
