/- The lock's and the atomic pointer's methods at this dump's numbers: one goroutine. -/
import Derived.Test.YbulkbxneProg
import Derived.WalkKit
import Derived.Defers
import Derived.Laws.Pointers
import Derived.Laws.LoneSync
import Derived.WalkLawsBesides
namespace Go.Proofs.Ybulkbxne
open Go.RowKit (wrap32 wrap64)
set_option maxRecDepth 100000
set_option maxHeartbeats 800000

theorem sbind_eq {α β : Type} (x : Sem α) (f : α → Sem β) : Sem.bind x f = (x >>= f) := rfl
theorem spure_eq {α : Type} (x : α) : Sem.pure x = (pure x : Sem α) := rfl
theorem size49 : (Yba.prog.info? 49).map (fun i => decide (i.size = 0)) = some false := by kernel_rfl
theorem size58 : (Yba.prog.info? 58).map (fun i => decide (i.size = 0)) = some false := by kernel_rfl
theorem lies58 : liesAt Yba.prog Yba.prog.depth 58 (5 / Yba.prog.cellsOf 58) 0 58 1 = true := by kernel_rfl

/-- a pointer to the inner lock as a raw pointer: the same address -/
theorem conv79 {a : Addr} {v : Value} {w : World} (hc : w.cell? a = some v) : (convert 79 42 (.pointer (some a))).run Yba.prog w = .ok (.pointer (some a)) w := by
  obtain ⟨e, n, hsh, hlt, hsp⟩ := World.shape?_of_cell? hc
  obtain ⟨i, hi, hz0⟩ := Option.map_eq_some_iff.1 size49
  have hz : i.size ≠ 0 := by simpa using hz0
  have hge : ¬ (n ≤ a.off) := by omega
  simp [convert, run_underlying Yba.underlying79, run_underlying Yba.underlying42]
  conv => lhs; arg 2; whnf
  have u1 := Yba.underlying79
  have u2 := Yba.underlying42
  simp [Sem.run, sbind_eq, spure_eq, underlying, Conv.seenAt, viewAt, cellsIn, sizeOf, typeInfo, u1, u2, hi, hz, hsh, hge, Result.andThen]

/-- a pointer to a matrix as a raw pointer: the same address -/
theorem conv28 {a : Addr} {v : Value} {w : World} (hc : w.cell? a = some v) : (convert 28 42 (.pointer (some a))).run Yba.prog w = .ok (.pointer (some a)) w := by
  obtain ⟨e, n, hsh, hlt, hsp⟩ := World.shape?_of_cell? hc
  obtain ⟨i, hi, hz0⟩ := Option.map_eq_some_iff.1 size58
  have hz : i.size ≠ 0 := by simpa using hz0
  have hge : ¬ (n ≤ a.off) := by omega
  simp [convert, run_underlying Yba.underlying28, run_underlying Yba.underlying42]
  conv => lhs; arg 2; whnf
  have u1 := Yba.underlying28
  have u2 := Yba.underlying42
  simp [Sem.run, sbind_eq, spure_eq, underlying, Conv.seenAt, viewAt, cellsIn, sizeOf, typeInfo, u1, u2, hi, hz, hsh, hge, Result.andThen]

/-- a raw pointer at a matrix's own block, as a pointer to a matrix: the same address -/
theorem run_convert_matrix (b : Nat) (c : Array Value) (w : World) (hb : w.heap[b]? = some (.cells c 58 (0, 0))) (hs : c.size = 5) :
    (convert 42 28 (.pointer (some ⟨b, 0, none⟩))).run Yba.prog w = .ok (.pointer (some ⟨b, 0, none⟩)) w := by
  obtain ⟨i, hi, hz0⟩ := Option.map_eq_some_iff.1 size58
  have hz : i.size ≠ 0 := by simpa using hz0
  have hsh : w.shape? b = some (58, 5) := by simp [World.shape?, hb, hs]
  have hl := lies58
  simp [convert, run_underlying Yba.underlying28, run_underlying Yba.underlying42]
  conv => lhs; arg 2; whnf
  have u1 := Yba.underlying28
  have u2 := Yba.underlying42
  simp [Sem.run, sbind_eq, spure_eq, underlying, Conv.seenAt, viewAt, cellsIn, sizeOf, typeInfo, u1, u2, hi, hz, hsh, variablesAt, hl, Result.andThen]

theorem disable (w : World) : (callFunc 27 #[]).run Yba.prog w = .ok (.value (.tuple #[])) w := run_call_mark0 Yba.func27 (by kernel_rfl) (by kernel_rfl) (by kernel_rfl) .disable (by kernel_rfl) w
theorem enable (w : World) : (callFunc 28 #[]).run Yba.prog w = .ok (.value (.tuple #[])) w := run_call_mark0 Yba.func28 (by kernel_rfl) (by kernel_rfl) (by kernel_rfl) .enable (by kernel_rfl) w
theorem acquire (a : Addr) (w : World) : (callFunc 30 #[.pointer (some a)]).run Yba.prog w = .ok (.value (.tuple #[])) w := run_call_marked Yba.func30 (by kernel_rfl) (by kernel_rfl) (by kernel_rfl) .acquire (by kernel_rfl) a w
theorem releaseMerge (a : Addr) (w : World) : (callFunc 31 #[.pointer (some a)]).run Yba.prog w = .ok (.value (.tuple #[])) w := run_call_marked Yba.func31 (by kernel_rfl) (by kernel_rfl) (by kernel_rfl) .releaseMerge (by kernel_rfl) a w

/-- '(*sync.Mutex).Unlock', entered as a deferred call. -/
theorem unlock_deferred (a : Addr) (u : FrameMode) (w : World) (hc : w.cell? a = some (.int .i32 1)) (hz : w.frozen? a = false) :
    CallsD Yba.prog 13 #[.pointer (some a)] u w fun e u' w' => u' = u ∧ (e = .returned (.tuple #[]) ∧ w' = w.setCell a (.int .i32 0)) := by
  have hd := disable
  have he := enable
  have hr := releaseMerge
  have hcv := conv79 hc
  have hadd := run_call_add (P := Yba.prog) Yba.func32 (by kernel_rfl) (by kernel_rfl) (by kernel_rfl) .i32 (by kernel_rfl) (y := -1) (s := 0) hc hz (by simp [go_sem]; rfl)
  go_enter_d Yba.func13, Yba.ntmps13
  go_wp2
  go_end0
  go_wp2
  go_end0
  exact ⟨rfl, rfl⟩

/-- '(*sync.Mutex).Unlock', a plain call. -/
theorem unlock_held (a : Addr) (w : World) (hc : w.cell? a = some (.int .i32 1)) (hz : w.frozen? a = false) :
    Calls Yba.prog 13 #[.pointer (some a)] w fun e w' => e = .returned (.tuple #[]) ∧ w' = w.setCell a (.int .i32 0) := by
  have hd := disable
  have he := enable
  have hr := releaseMerge
  have hcv := conv79 hc
  have hadd := run_call_add (P := Yba.prog) Yba.func32 (by kernel_rfl) (by kernel_rfl) (by kernel_rfl) .i32 (by kernel_rfl) (y := -1) (s := 0) hc hz (by simp [go_sem]; rfl)
  go_enter Yba.func13, Yba.ntmps13
  go_wp2
  go_end0
  go_wp2
  go_end0
  exact ⟨rfl, rfl⟩

/-- '(*sync.Mutex).Lock', free: taken. -/
theorem lock_free (a : Addr) (w : World) (hc : w.cell? a = some (.int .i32 0)) (hz : w.frozen? a = false) :
    Calls Yba.prog 18 #[.pointer (some a)] w fun e w' => e = .returned (.tuple #[]) ∧ w' = w.setCell a (.int .i32 1) := by
  have hd := disable
  have he := enable
  have ha := acquire
  have hcas := run_call_cas_hit (P := Yba.prog) Yba.func29 (by kernel_rfl) (by kernel_rfl) (by kernel_rfl) .i32 (by kernel_rfl) (y := 1) hc hz
  have hc' : (w.setCell a (.int .i32 1)).cell? a = some (.int .i32 1) := World.cell?_setCell_same w a _ hc
  have hcv := conv79 hc'
  go_enter Yba.func18, Yba.ntmps18
  go_wp2
  first | go_end0 | (simp only [Exit.inBlock, Exit.then]; refine bodyPost_ret (results_none rfl _ _ _) rfl ?_) | refine bodyPost_ret (results_none rfl _ _ _) rfl ?_
  go_wp2
  go_end0
  exact ⟨rfl, rfl⟩

/-- '(*sync.Mutex).TryLock', free: taken, true. -/
theorem trylock_free (a : Addr) (w : World) (hc : w.cell? a = some (.int .i32 0)) (hz : w.frozen? a = false) :
    Calls Yba.prog 12 #[.pointer (some a)] w fun e w' => e = .returned (.bool true) ∧ w' = w.setCell a (.int .i32 1) := by
  have hd := disable
  have he := enable
  have ha := acquire
  have hcas := run_call_cas_hit (P := Yba.prog) Yba.func29 (by kernel_rfl) (by kernel_rfl) (by kernel_rfl) .i32 (by kernel_rfl) (y := 1) hc hz
  have hc' : (w.setCell a (.int .i32 1)).cell? a = some (.int .i32 1) := World.cell?_setCell_same w a _ hc
  have hcv := conv79 hc'
  go_enter Yba.func12, Yba.ntmps12
  go_wp2
  go_ret
  exact ⟨rfl, rfl⟩

/-- sync/atomic.StorePointer: the pointer is stored. -/
theorem run_call_storeP {a : Addr} {q : Option Addr} {u : Value} {w : World} (hc : w.cell? a = some u) (hz : w.frozen? a = false) :
    (callFunc 17 #[.pointer (some a), .pointer q]).run Yba.prog w = .ok (.value (.tuple #[])) (w.setCell a (.pointer q)) := by
  rw [run_callFunc_extern Yba.func17 (by kernel_rfl) (by kernel_rfl) (by kernel_rfl) (show Extern.find Yba.f17 = some Extern.Atomic.storeT by kernel_rfl)]
  change (Sem.run Yba.prog (do
    store (← asAddr (.pointer (some a))) (.pointer q) .atomic
    pure Extern.Atomic.none_) w).andThen _ = _
  simp [asAddr, hc, hz, run_store Yba.prog w a (.pointer q) .atomic rfl, Result.andThen, Extern.Atomic.none_]

/-- sync/atomic.LoadPointer. -/
theorem run_call_loadP {a : Addr} {q : Option Addr} {w : World} (hc : w.cell? a = some (.pointer q)) :
    (callFunc 26 #[.pointer (some a)]).run Yba.prog w = .ok (.value (.pointer q)) w := by
  rw [run_callFunc_extern Yba.func26 (by kernel_rfl) (by kernel_rfl) (by kernel_rfl) (show Extern.find Yba.f26 = some (Extern.Atomic.loadT .ptr) by kernel_rfl)]
  change (Sem.run Yba.prog (do Extern.Atomic.read .ptr (← asAddr (.pointer (some a)))) w).andThen _ = _
  simp [Extern.Atomic.read, asAddr, hc, Result.andThen]

/-- '(*atomic.Pointer[Matrix]).Store'. 'm': the matrix's first cell is there. -/
theorem pstore (a m : Addr) (u v : Value) (w : World) (hc : w.cell? a = some u) (hz : w.frozen? a = false) (hm : w.cell? m = some v) :
    Calls Yba.prog 9 #[.pointer (some a), .pointer (some m)] w fun e w' => e = .returned (.tuple #[]) ∧ w' = w.setCell a (.pointer (some m)) := by
  have hcv := conv28 hm
  have hs := run_call_storeP (q := some m) hc hz
  go_enter Yba.func9, Yba.ntmps9
  go_wp2
  go_end0
  exact ⟨rfl, rfl⟩

end Go.Proofs.Ybulkbxne
