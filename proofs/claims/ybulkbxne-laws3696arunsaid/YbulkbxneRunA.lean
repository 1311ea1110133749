/- LawS3696ARun: the heap's shapes; zzs3696amat, zzs3696aget, elements. -/
import Derived.Test.YbulkbxneSetB
import Derived.Test.YbulkbxneFloat
import Derived.Test.YbulkbxneOwn
import Derived.RegionTactic
import Derived.Deep.RegionLaw
namespace Go.Proofs.Ybulkbxne
open Go.RowKit Go.Proofs.WholeFloat
set_option maxRecDepth 100000
set_option maxHeartbeats 800000
set_option linter.unusedVariables false
set_option linter.unusedSimpArgs false

theorem Yba.info63 : (Yba.prog.info? 63).map (fun i => (i.zero, i.size, i.bytes)) = some (some (.float .f32 0), 1, 4) := by kernel_rfl
theorem Yba.size63 : (Yba.prog.info? 63).map (·.size) = some 1 := by kernel_rfl

/-- a float, stored -/
theorem run_store_float {P : Program} {w : World} {a : Addr} {m : Mode} (k : FloatKind) (b : Nat) : (store a (.float k b) m).run P w = stored P w a (.float k b) m := run_store P w a _ m rfl
attribute [local go_sem] run_store_float

theorem Yba.assert56 (v : Value) (w : World) : (Instr.typeAssert (.iface 56 v) 20 56 true).run Yba.prog w = .ok (.tuple #[v, .bool true]) w := by kernel_rfl
theorem Yba.assert56no (v : Value) (w : World) : (Instr.typeAssert (.iface 56 v) 20 24 true).run Yba.prog w = .ok (.tuple #[.slice none 0 0, .bool false]) w := by kernel_rfl
theorem Yba.assert24 (v : Value) (w : World) : (Instr.typeAssert (.iface 24 v) 20 24 false).run Yba.prog w = .ok v w := by kernel_rfl
attribute [local go_sem] Yba.assert56 Yba.assert56no Yba.assert24

/-- the element type of a kind -/
def ety : FloatKind → TypeId
  | .f32 => 63
  | .f64 => 25

/-- block g is a row of n floats of kind k, the whole numbers v -/
def FR (w : World) (k : FloatKind) (g n : Nat) (v : Nat → Int) : Prop := w.rowIs g (ety k) n (fun i => .float k (floatOfInt k (v i)))

theorem FR.lt {w : World} {k : FloatKind} {g n : Nat} {v : Nat → Int} (h : FR w k g n v) : g < w.heap.size := World.rowIs.lt h
theorem FR.cell {w : World} {k : FloatKind} {g n : Nat} {v : Nat → Int} (h : FR w k g n v) {i : Nat} (hi : i < n) : w.cell? ⟨g, i, none⟩ = some (.float k (floatOfInt k (v i))) := World.rowIs.cell h hi
theorem FR.frozen {w : World} {k : FloatKind} {g n : Nat} {v : Nat → Int} (h : FR w k g n v) (i : Nat) : w.frozen? ⟨g, i, none⟩ = false := World.rowIs.frozen h i
theorem FR.kept {w w' : World} {k : FloatKind} {g n : Nat} {v : Nat → Int} (h : FR w k g n v) (e : w'.heap[g]? = w.heap[g]?) : FR w' k g n v := World.rowIs.of_block h e
theorem FR.below {w w' : World} {k : FloatKind} {g n : Nat} {v : Nat → Int} (h : FR w k g n v) {B : Nat} (e : Below B w w') (hB : g < B) : FR w' k g n v := h.kept (e.block g hB)
theorem FR.congr {w : World} {k : FloatKind} {g n : Nat} {v u : Nat → Int} (h : FR w k g n v) (e : ∀ i, i < n → v i = u i) : FR w k g n u :=
  World.rowIs.congr h fun i hi => by rw [e i hi]
theorem FR.set {w : World} {k : FloatKind} {g n : Nat} {v : Nat → Int} (h : FR w k g n v) (i : Nat) (z : Int) : FR (w.setCell ⟨g, i, none⟩ (.float k (floatOfInt k z))) k g n (fun j => if j = i then z else v j) :=
  World.rowIs.congr (World.rowIs.set h i _) fun j hj => by by_cases e : j = i <;> simp [e]
theorem FR.other {w : World} {k : FloatKind} {g n : Nat} {v : Nat → Int} (h : FR w k g n v) {a : Addr} (ha : g ≠ a.block) (x : Value) : FR (w.setCell a x) k g n v := World.rowIs.setOther h ha x
theorem FR.alloc {w : World} {k : FloatKind} {g n : Nat} {v : Nat → Int} (h : FR w k g n v) (o : Obj) : FR (w.alloc o) k g n v := World.rowIs.alloc h o
theorem FR.made (w : World) (k : FloatKind) (n : Nat) : FR (w.alloc (.cells (madeCells #[.float k 0] n) (ety k))) k w.heap.size n (fun _ => 0) :=
  World.rowIs.congr (World.rowIs_made w (.float k 0) n (ety k)) fun i hi => by rw [floatOfInt_zero]

theorem conv_whole (src dst : TypeId) (s k : FloatKind) (hs : Yba.prog.underlying src = some (.float s)) (hd : Yba.prog.underlying dst = some (.float k)) (z : Int) (hz : Small z) (w : World) :
    (convert src dst (.float s (floatOfInt s z))).run Yba.prog w = .ok (.float k (floatOfInt k z)) w :=
  run_convert_float_float w src dst s k _ _ (by rw [hs]; rfl) hd (convert_whole s k z hz)

/-- a matrix's block -/
def matR (k : FloatKind) (n r : Nat) : Array Value :=
  match k with
  | .f32 => #[.int .i64 n, .int .i64 1, .int .u8 1, .slice (some ⟨r, 0, none⟩) n n, .slice none 0 0]
  | .f64 => #[.int .i64 n, .int .i64 1, .int .u8 2, .slice none 0 0, .slice (some ⟨r, 0, none⟩) n n]

def isF32 : FloatKind → Bool
  | .f32 => true
  | .f64 => false

/-- how far a row is filled -/
theorem FR.step {w : World} {k : FloatKind} {g n i : Nat} {v u : Nat → Int} (h : FR w k g n (fun j => if j < i then v j else u j)) : FR (w.setCell ⟨g, i, none⟩ (.float k (floatOfInt k (v i)))) k g n (fun j => if j < i + 1 then v j else u j) :=
  (h.set i (v i)).congr fun j hj => by
    by_cases e : j = i
    · subst e; simp
    · by_cases l : j < i
      · simp [e, l, Nat.lt_succ_of_lt l]
      · have : ¬ j < i + 1 := by omega
        simp [e, l, this]

theorem FR.none {w : World} {k : FloatKind} {g n : Nat} {v u : Nat → Int} (h : FR w k g n u) : FR w k g n (fun j => if j < 0 then v j else u j) := h.congr fun j hj => by simp
theorem FR.all {w : World} {k : FloatKind} {g n : Nat} {v u : Nat → Int} (h : FR w k g n (fun j => if j < n then v j else u j)) : FR w k g n v := h.congr fun j hj => by simp [hj]

theorem FR.some {w : World} {k : FloatKind} {g n : Nat} {v : Nat → Int} (h : FR w k g n v) {i : Nat} (hi : i < n) : ∃ x, w.cell? ⟨g, i, .none⟩ = .some x := ⟨_, h.cell hi⟩

theorem mat32 (g n : Nat) (v : Nat → Int) (w : World) (hn : n ≤ 1024) (hv : ∀ i, i < n → Small (v i)) (hg : FR w .f64 g n v) :
    Calls Yba.prog 5 #[.bool true, .slice (some ⟨g, 0, none⟩) n n] w fun e w' => e = .returned (.pointer (some ⟨w.heap.size, 0, none⟩)) ∧
      w'.heap[w.heap.size]? = some (.cells (matR .f32 n (w.heap.size + 1)) 58 (0, 0)) ∧ FR w' .f32 (w.heap.size + 1) n v ∧ Below w.heap.size w w' := by
  have hmk := run_make_row' (P := Yba.prog) 56 63 (.float .f32 0) 4 Yba.underlying56 Yba.info63 rfl .i64 .i64 n (by omega) (by omega)
  have hgl := hg.lt
  go_enter Yba.func5, Yba.ntmps5
  go_wp2
  have F1 : FR ((w.alloc (.cells (matR .f32 n (w.heap.size + 1)) 58)).alloc (.cells (madeCells #[.float .f32 0] n) 63)) .f32 (w.heap.size + 1) n (fun _ => 0) := by
    have := FR.made (w.alloc (.cells (matR .f32 n (w.heap.size + 1)) 58)) .f32 n
    simpa [ety] using this
  have F2 : ((w.alloc (.cells (matR .f32 n (w.heap.size + 1)) 58)).alloc (.cells (madeCells #[.float .f32 0] n) 63)).heap[w.heap.size]? = some (.cells (matR .f32 n (w.heap.size + 1)) 58 (0, 0)) := by
    rw [Go.Deep.blk_alloc_lt _ _ _ (by simp), Go.Deep.blk_alloc_new]
  have F3 : Below w.heap.size w ((w.alloc (.cells (matR .f32 n (w.heap.size + 1)) 58)).alloc (.cells (madeCells #[.float .f32 0] n) 63)) :=
    ((Below.refl _ _).alloc (Nat.le_refl _) _).alloc (by simp) _
  go_loopw [6] (fun i wr => ∃ k : Nat, k ≤ n ∧ i = .int .i64 k ∧ FR wr .f32 (w.heap.size + 1) n (fun j => if j < k then v j else 0) ∧ wr.heap[w.heap.size]? = some (.cells (matR .f32 n (w.heap.size + 1)) 58 (0, 0)) ∧ Below w.heap.size w wr) (fun i _ => n - (intOf i).toNat)
  case atStart => exact ⟨0, Nat.zero_le _, rfl, F1.none, F2, F3⟩
  case round =>
    obtain ⟨k, hk, rfl, f1, f2, f3⟩ := hrel
    clear F1 F2 F3
    by_cases hlt : k < n
    · have hlt' : (k : Int) < (n : Int) := by omega
      have c1 : wr.cell? ⟨w.heap.size, 3, none⟩ = some (.slice (some ⟨w.heap.size + 1, 0, none⟩) n n) := by rw [cell_of_blk f2]; rfl
      have c2 := (hg.below f3 hgl).cell hlt
      obtain ⟨x0, c3⟩ := f1.some hlt
      have c4 := f1.frozen k
      have G1 := f1.step
      have G2 : ∀ x, (wr.setCell ⟨w.heap.size + 1, k, none⟩ x).heap[w.heap.size]? = some (.cells (matR .f32 n (w.heap.size + 1)) 58 (0, 0)) := fun x => by rw [Below.heap_setCell _ _ _ _ (by simp)]; exact f2
      have G3 : ∀ x, Below w.heap.size w (wr.setCell ⟨w.heap.size + 1, k, none⟩ x) := fun x => f3.setCell (by simp) x
      have cv := conv_whole 25 63 .f64 .f32 Yba.underlying25 Yba.underlying63 (v k) (hv k hlt)
      clear f1 f2 f3 hmk hg hv
      go_wp2
      go_region
      go_wp2
      go_roundw
      case rel => exact ⟨k + 1, by omega, by go_num, G1, G2 _, (G3 _).drew⟩
      case measure => simp [intOf]; omega
    · obtain rfl : k = n := by omega
      go_wp2
      go_ret
      exact ⟨rfl, f2, f1.all, f3⟩

theorem mat64 (g n : Nat) (v : Nat → Int) (w : World) (hn : n ≤ 1024) (hv : ∀ i, i < n → Small (v i)) (hg : FR w .f64 g n v) :
    Calls Yba.prog 5 #[.bool false, .slice (some ⟨g, 0, none⟩) n n] w fun e w' => e = .returned (.pointer (some ⟨w.heap.size, 0, none⟩)) ∧
      w'.heap[w.heap.size]? = some (.cells (matR .f64 n (w.heap.size + 1)) 58 (0, 0)) ∧ FR w' .f64 (w.heap.size + 1) n v ∧ Below w.heap.size w w' := by
  have hmk := run_make_row' (P := Yba.prog) 24 25 (.float .f64 0) 8 Yba.underlying24 Yba.info25 rfl .i64 .i64 n (by omega) (by omega)
  have hgl := hg.lt
  go_enter Yba.func5, Yba.ntmps5
  go_wp2
  have F1 : FR ((w.alloc (.cells (matR .f64 n (w.heap.size + 1)) 58)).alloc (.cells (madeCells #[.float .f64 0] n) 25)) .f64 (w.heap.size + 1) n (fun _ => 0) := by
    have := FR.made (w.alloc (.cells (matR .f64 n (w.heap.size + 1)) 58)) .f64 n
    simpa [ety] using this
  have F2 : ((w.alloc (.cells (matR .f64 n (w.heap.size + 1)) 58)).alloc (.cells (madeCells #[.float .f64 0] n) 25)).heap[w.heap.size]? = some (.cells (matR .f64 n (w.heap.size + 1)) 58 (0, 0)) := by
    rw [Go.Deep.blk_alloc_lt _ _ _ (by simp), Go.Deep.blk_alloc_new]
  have F3 : Below w.heap.size w ((w.alloc (.cells (matR .f64 n (w.heap.size + 1)) 58)).alloc (.cells (madeCells #[.float .f64 0] n) 25)) :=
    ((Below.refl _ _).alloc (Nat.le_refl _) _).alloc (by simp) _
  go_loopw [7] (fun i wr => ∃ k : Nat, k ≤ n ∧ i = .int .i64 k ∧ FR wr .f64 (w.heap.size + 1) n (fun j => if j < k then v j else 0) ∧ wr.heap[w.heap.size]? = some (.cells (matR .f64 n (w.heap.size + 1)) 58 (0, 0)) ∧ Below w.heap.size w wr) (fun i _ => n - (intOf i).toNat)
  case atStart => exact ⟨0, Nat.zero_le _, rfl, F1.none, F2, F3⟩
  case round =>
    obtain ⟨k, hk, rfl, f1, f2, f3⟩ := hrel
    clear F1 F2 F3
    by_cases hlt : k < n
    · have hlt' : (k : Int) < (n : Int) := by omega
      have c1 : wr.cell? ⟨w.heap.size, 4, none⟩ = some (.slice (some ⟨w.heap.size + 1, 0, none⟩) n n) := by rw [cell_of_blk f2]; rfl
      have c2 := (hg.below f3 hgl).cell hlt
      obtain ⟨x0, c3⟩ := f1.some hlt
      have c4 := f1.frozen k
      have G1 := f1.step
      have G2 : ∀ x, (wr.setCell ⟨w.heap.size + 1, k, none⟩ x).heap[w.heap.size]? = some (.cells (matR .f64 n (w.heap.size + 1)) 58 (0, 0)) := fun x => by rw [Below.heap_setCell _ _ _ _ (by simp)]; exact f2
      have G3 : ∀ x, Below w.heap.size w (wr.setCell ⟨w.heap.size + 1, k, none⟩ x) := fun x => f3.setCell (by simp) x
      clear f1 f2 f3 hmk hg hv
      go_wp2
      go_region
      go_wp2
      go_roundw
      case rel => exact ⟨k + 1, by omega, by go_num, G1, G2 _, (G3 _).drew⟩
      case measure => simp [intOf]; omega
    · obtain rfl : k = n := by omega
      go_wp2
      go_ret
      exact ⟨rfl, f2, f1.all, f3⟩

/-- zzs3696amat -/
theorem mat5 (k : FloatKind) (g n : Nat) (v : Nat → Int) (w : World) (hn : n ≤ 1024) (hv : ∀ i, i < n → Small (v i)) (hg : FR w .f64 g n v) :
    Calls Yba.prog 5 #[.bool (isF32 k), .slice (some ⟨g, 0, none⟩) n n] w fun e w' => e = .returned (.pointer (some ⟨w.heap.size, 0, none⟩)) ∧
      w'.heap[w.heap.size]? = some (.cells (matR k n (w.heap.size + 1)) 58 (0, 0)) ∧ FR w' k (w.heap.size + 1) n v ∧ Below w.heap.size w w' := by
  cases k
  · exact mat32 g n v w hn hv hg
  · exact mat64 g n v w hn hv hg

/-- zzs3696aget -/
theorem get32 (m r n : Nat) (v : Nat → Int) (w : World) (hn : n ≤ 1024) (hv : ∀ i, i < n → Small (v i)) (hm : w.heap[m]? = some (.cells (matR .f32 n r) 58 (0, 0))) (hr : FR w .f32 r n v) :
    Calls Yba.prog 7 #[.pointer (some ⟨m, 0, none⟩)] w fun e w' => e = .returned (.slice (some ⟨w.heap.size, 0, none⟩) n n) ∧ FR w' .f64 w.heap.size n v ∧ Below w.heap.size w w' := by
  have hmk := run_make_row' (P := Yba.prog) 24 25 (.float .f64 0) 8 Yba.underlying24 Yba.info25 rfl .i64 .i64 n (by omega) (by omega)
  have hrl := hr.lt
  have hml : m < w.heap.size := (Array.getElem?_eq_some_iff.1 hm).1
  have a2 : w.cell? ⟨m, 2, none⟩ = some (.int .u8 1) := by rw [cell_of_blk hm]; rfl
  have a3 : w.cell? ⟨m, 3, none⟩ = some (.slice (some ⟨r, 0, none⟩) n n) := by rw [cell_of_blk hm]; rfl
  go_enter Yba.func7, Yba.ntmps7
  go_wp2
  have F1 : FR (w.alloc (.cells (madeCells #[.float .f64 0] n) 25)) .f64 w.heap.size n (fun _ => 0) := FR.made w .f64 n
  have F3 : Below w.heap.size w (w.alloc (.cells (madeCells #[.float .f64 0] n) 25)) := (Below.refl _ _).alloc (Nat.le_refl _) _
  go_loopw [4] (fun i wr => ∃ k : Nat, k ≤ n ∧ i = .int .i64 k ∧ FR wr .f64 w.heap.size n (fun j => if j < k then v j else 0) ∧ Below w.heap.size w wr) (fun i _ => n - (intOf i).toNat)
  case atStart => exact ⟨0, Nat.zero_le _, rfl, F1.none, F3⟩
  case round =>
    obtain ⟨k, hk, rfl, f1, f3⟩ := hrel
    clear F1 F3
    have c1 : wr.cell? ⟨m, 3, none⟩ = some (.slice (some ⟨r, 0, none⟩) n n) := by rw [f3.cell hml]; exact a3
    by_cases hlt : k < n
    · have hlt' : (k : Int) < (n : Int) := by omega
      have c2 := (hr.below f3 hrl).cell hlt
      obtain ⟨x0, c3⟩ := f1.some hlt
      have c4 := f1.frozen k
      have G1 := f1.step
      have G3 : ∀ x, Below w.heap.size w (wr.setCell ⟨w.heap.size, k, none⟩ x) := fun x => f3.setCell (by simp) x
      have cv := conv_whole 63 25 .f32 .f64 Yba.underlying63 Yba.underlying25 (v k) (hv k hlt)
      clear f1 f3 hmk hr hv
      go_wp2
      go_roundw
      case rel => exact ⟨k + 1, by omega, by go_num, G1, G3 _⟩
      case measure => simp [intOf]; omega
    · obtain rfl : k = n := by omega
      go_wp2
      go_ret
      exact ⟨rfl, f1.all, f3⟩

theorem get64 (m r n : Nat) (v : Nat → Int) (w : World) (hn : n ≤ 1024) (hv : ∀ i, i < n → Small (v i)) (hm : w.heap[m]? = some (.cells (matR .f64 n r) 58 (0, 0))) (hr : FR w .f64 r n v) :
    Calls Yba.prog 7 #[.pointer (some ⟨m, 0, none⟩)] w fun e w' => e = .returned (.slice (some ⟨w.heap.size, 0, none⟩) n n) ∧ FR w' .f64 w.heap.size n v ∧ Below w.heap.size w w' := by
  have hmk := run_make_row' (P := Yba.prog) 24 25 (.float .f64 0) 8 Yba.underlying24 Yba.info25 rfl .i64 .i64 n (by omega) (by omega)
  have hrl := hr.lt
  have hml : m < w.heap.size := (Array.getElem?_eq_some_iff.1 hm).1
  have a2 : w.cell? ⟨m, 2, none⟩ = some (.int .u8 2) := by rw [cell_of_blk hm]; rfl
  have a3 : w.cell? ⟨m, 4, none⟩ = some (.slice (some ⟨r, 0, none⟩) n n) := by rw [cell_of_blk hm]; rfl
  go_enter Yba.func7, Yba.ntmps7
  go_wp2
  have F1 : FR (w.alloc (.cells (madeCells #[.float .f64 0] n) 25)) .f64 w.heap.size n (fun _ => 0) := FR.made w .f64 n
  have F3 : Below w.heap.size w (w.alloc (.cells (madeCells #[.float .f64 0] n) 25)) := (Below.refl _ _).alloc (Nat.le_refl _) _
  go_loopw [6] (fun i wr => ∃ k : Nat, k ≤ n ∧ i = .int .i64 k ∧ FR wr .f64 w.heap.size n (fun j => if j < k then v j else 0) ∧ Below w.heap.size w wr) (fun i _ => n - (intOf i).toNat)
  case atStart => exact ⟨0, Nat.zero_le _, rfl, F1.none, F3⟩
  case round =>
    obtain ⟨k, hk, rfl, f1, f3⟩ := hrel
    clear F1 F3
    have c1 : wr.cell? ⟨m, 4, none⟩ = some (.slice (some ⟨r, 0, none⟩) n n) := by rw [f3.cell hml]; exact a3
    by_cases hlt : k < n
    · have hlt' : (k : Int) < (n : Int) := by omega
      have c2 := (hr.below f3 hrl).cell hlt
      obtain ⟨x0, c3⟩ := f1.some hlt
      have c4 := f1.frozen k
      have G1 := f1.step
      have G3 : ∀ x, Below w.heap.size w (wr.setCell ⟨w.heap.size, k, none⟩ x) := fun x => f3.setCell (by simp) x
      clear f1 f3 hmk hr hv
      go_wp2
      go_roundw
      case rel => exact ⟨k + 1, by omega, by go_num, G1, G3 _⟩
      case measure => simp [intOf]; omega
    · obtain rfl : k = n := by omega
      go_wp2
      go_ret
      exact ⟨rfl, f1.all, f3⟩

theorem get7 (k : FloatKind) (m r n : Nat) (v : Nat → Int) (w : World) (hn : n ≤ 1024) (hv : ∀ i, i < n → Small (v i)) (hm : w.heap[m]? = some (.cells (matR k n r) 58 (0, 0))) (hr : FR w k r n v) :
    Calls Yba.prog 7 #[.pointer (some ⟨m, 0, none⟩)] w fun e w' => e = .returned (.slice (some ⟨w.heap.size, 0, none⟩) n n) ∧ FR w' .f64 w.heap.size n v ∧ Below w.heap.size w w' := by
  cases k
  · exact get32 m r n v w hn hv hm hr
  · exact get64 m r n v w hn hv hm hr

/-- elements[float32] -/
theorem elem23 (m r n : Nat) (w : World) (hm : w.heap[m]? = some (.cells (matR .f32 n r) 58 (0, 0))) :
    Calls Yba.prog 23 #[.pointer (some ⟨m, 0, none⟩)] w fun e w' => e = .returned (.slice (some ⟨r, 0, none⟩) n n) ∧ w' = w := by
  have a3 : w.cell? ⟨m, 3, none⟩ = some (.slice (some ⟨r, 0, none⟩) n n) := by rw [cell_of_blk hm]; rfl
  clear hm
  go_enter Yba.func23, Yba.ntmps23
  go_wp2
  go_ret
  exact ⟨rfl, rfl⟩

/-- elements[float64] -/
theorem elem24 (m r n : Nat) (w : World) (hm : w.heap[m]? = some (.cells (matR .f64 n r) 58 (0, 0))) :
    Calls Yba.prog 24 #[.pointer (some ⟨m, 0, none⟩)] w fun e w' => e = .returned (.slice (some ⟨r, 0, none⟩) n n) ∧ w' = w := by
  have a3 : w.cell? ⟨m, 3, none⟩ = some (.slice none 0 0) := by rw [cell_of_blk hm]; rfl
  have a4 : w.cell? ⟨m, 4, none⟩ = some (.slice (some ⟨r, 0, none⟩) n n) := by rw [cell_of_blk hm]; rfl
  clear hm
  go_enter Yba.func24, Yba.ntmps24
  go_wp2
  go_ret
  exact ⟨rfl, rfl⟩
end Go.Proofs.Ybulkbxne
