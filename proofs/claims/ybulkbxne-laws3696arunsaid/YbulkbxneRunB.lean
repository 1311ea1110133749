/- LawS3696ARun: stateRun. -/
import Derived.Test.YbulkbxneRunA
namespace Go.Proofs.Ybulkbxne
open Go.RowKit Go.Proofs.WholeFloat
set_option maxRecDepth 100000
set_option maxHeartbeats 800000
set_option linter.unusedVariables false
set_option linter.unusedSimpArgs false

theorem Yba.info56 : (Yba.prog.info? 56).map (fun i => (i.zero, i.size, i.bytes)) = some (some (.slice none 0 0), 1, 24) := by kernel_rfl
theorem Yba.info24 : (Yba.prog.info? 24).map (fun i => (i.zero, i.size, i.bytes)) = some (some (.slice none 0 0), 1, 24) := by kernel_rfl

/-- x[lo:hi] of a row of n at block r -/
def subS (n lo hi r : Nat) : Value := .slice (if n = lo then some ⟨r, 0, none⟩ else some ⟨r, lo, none⟩) (hi - lo) (n - lo)

theorem rowIs_step {w : World} {g : Nat} {t : TypeId} {n i : Nat} {v u : Nat → Value} (h : w.rowIs g t n (fun j => if j < i then v j else u j)) : (w.setCell ⟨g, i, none⟩ (v i)).rowIs g t n (fun j => if j < i + 1 then v j else u j) :=
  (h.set i (v i)).congr fun j hj => by
    by_cases e : j = i
    · subst e; simp
    · by_cases l : j < i
      · simp [e, l, Nat.lt_succ_of_lt l]
      · have : ¬ j < i + 1 := by omega
        simp [e, l, this]

theorem state15 (sb K n lo hi : Nat) (ms rs : Nat → Nat) (w : World) (hn : n ≤ 1024) (hK : K ≤ 2) (hlo : lo ≤ hi) (hhi : hi ≤ n) (hsb : w.rowIs sb 28 K (fun j => .pointer (some ⟨ms j, 0, none⟩)))
    (hms : ∀ j, j < K → w.heap[ms j]? = some (.cells (matR .f32 n (rs j)) 58 (0, 0))) :
    Calls Yba.prog 15 #[.slice (some ⟨sb, 0, none⟩) K K, .int .i64 lo, .int .i64 hi] w fun e w' => e = .returned (.slice (some ⟨w.heap.size, 0, none⟩) K K) ∧
      w'.rowIs w.heap.size 56 K (fun j => subS n lo hi (rs j)) ∧ Below w.heap.size w w' := by
  have hmk := run_make_row' (P := Yba.prog) 67 56 (.slice none 0 0) 24 Yba.underlying67 Yba.info56 rfl .i64 .i64 K (by omega) (by omega)
  have hsl := hsb.lt
  go_enter Yba.func15, Yba.ntmps15
  go_wp2
  have F1 := World.rowIs_made w (.slice none 0 0) K 56
  have F3 : Below w.heap.size w (w.alloc (.cells (madeCells #[.slice none 0 0] K) 56)) := (Below.refl _ _).alloc (Nat.le_refl _) _
  go_loopw [15] (fun i wr => ∃ k : Nat, k ≤ K ∧ i = .int .i64 k ∧ wr.rowIs w.heap.size 56 K (fun j => if j < k then subS n lo hi (rs j) else .slice none 0 0) ∧ Below w.heap.size w wr) (fun i _ => K - (intOf i).toNat)
  case atStart => exact ⟨0, Nat.zero_le _, rfl, F1.congr (fun j hj => by simp), F3⟩
  case round =>
    obtain ⟨k, hk, rfl, f1, f3⟩ := hrel
    clear F1 F3
    by_cases hlt : k < K
    · have hlt' : (k : Int) < (K : Int) := by omega
      have c2 := (hsb.of_block (f3.block sb hsl)).cell hlt
      obtain ⟨x0, c3⟩ : ∃ x, wr.cell? ⟨w.heap.size, k, none⟩ = some x := ⟨_, f1.cell hlt⟩
      have c4 := f1.frozen k
      have hm := hms k hlt
      have hml : ms k < w.heap.size := (Array.getElem?_eq_some_iff.1 hm).1
      have hm' : wr.heap[ms k]? = _ := (f3.block (ms k) hml).trans hm
      have l1 : (lo : Int) ≤ (hi : Int) := by omega
      have l2 : (hi : Int) ≤ (n : Int) := by omega
      have G1 := rowIs_step f1
      have G3 : ∀ x, Below w.heap.size w (wr.setCell ⟨w.heap.size, k, none⟩ x) := fun x => f3.setCell (by simp) x
      clear hmk hsb hms hm f1 f3
      go_wp2_with fail
      refine (elem23 (ms k) (rs k) n wr hm').mono ?_
      rintro e w1 ⟨rfl, rfl⟩
      go_wp2
      go_roundw
      case rel => exact ⟨k + 1, by omega, by go_num, G1, G3 _⟩
      case measure => simp [intOf]; omega
    · obtain rfl : k = K := by omega
      go_wp2
      go_ret
      exact ⟨rfl, f1.congr (fun j hj => by simp [hj]), f3⟩

theorem state16 (sb K n lo hi : Nat) (ms rs : Nat → Nat) (w : World) (hn : n ≤ 1024) (hK : K ≤ 2) (hlo : lo ≤ hi) (hhi : hi ≤ n) (hsb : w.rowIs sb 28 K (fun j => .pointer (some ⟨ms j, 0, none⟩)))
    (hms : ∀ j, j < K → w.heap[ms j]? = some (.cells (matR .f64 n (rs j)) 58 (0, 0))) :
    Calls Yba.prog 16 #[.slice (some ⟨sb, 0, none⟩) K K, .int .i64 lo, .int .i64 hi] w fun e w' => e = .returned (.slice (some ⟨w.heap.size, 0, none⟩) K K) ∧
      w'.rowIs w.heap.size 24 K (fun j => subS n lo hi (rs j)) ∧ Below w.heap.size w w' := by
  have hmk := run_make_row' (P := Yba.prog) 27 24 (.slice none 0 0) 24 Yba.underlying27 Yba.info24 rfl .i64 .i64 K (by omega) (by omega)
  have hsl := hsb.lt
  go_enter Yba.func16, Yba.ntmps16
  go_wp2
  have F1 := World.rowIs_made w (.slice none 0 0) K 24
  have F3 : Below w.heap.size w (w.alloc (.cells (madeCells #[.slice none 0 0] K) 24)) := (Below.refl _ _).alloc (Nat.le_refl _) _
  go_loopw [15] (fun i wr => ∃ k : Nat, k ≤ K ∧ i = .int .i64 k ∧ wr.rowIs w.heap.size 24 K (fun j => if j < k then subS n lo hi (rs j) else .slice none 0 0) ∧ Below w.heap.size w wr) (fun i _ => K - (intOf i).toNat)
  case atStart => exact ⟨0, Nat.zero_le _, rfl, F1.congr (fun j hj => by simp), F3⟩
  case round =>
    obtain ⟨k, hk, rfl, f1, f3⟩ := hrel
    clear F1 F3
    by_cases hlt : k < K
    · have hlt' : (k : Int) < (K : Int) := by omega
      have c2 := (hsb.of_block (f3.block sb hsl)).cell hlt
      obtain ⟨x0, c3⟩ : ∃ x, wr.cell? ⟨w.heap.size, k, none⟩ = some x := ⟨_, f1.cell hlt⟩
      have c4 := f1.frozen k
      have hm := hms k hlt
      have hml : ms k < w.heap.size := (Array.getElem?_eq_some_iff.1 hm).1
      have hm' : wr.heap[ms k]? = _ := (f3.block (ms k) hml).trans hm
      have l1 : (lo : Int) ≤ (hi : Int) := by omega
      have l2 : (hi : Int) ≤ (n : Int) := by omega
      have G1 := rowIs_step f1
      have G3 : ∀ x, Below w.heap.size w (wr.setCell ⟨w.heap.size, k, none⟩ x) := fun x => f3.setCell (by simp) x
      clear hmk hsb hms hm f1 f3
      go_wp2_with fail
      refine (elem24 (ms k) (rs k) n wr hm').mono ?_
      rintro e w1 ⟨rfl, rfl⟩
      go_wp2
      go_roundw
      case rel => exact ⟨k + 1, by omega, by go_num, G1, G3 _⟩
      case measure => simp [intOf]; omega
    · obtain rfl : k = K := by omega
      go_wp2
      go_ret
      exact ⟨rfl, f1.congr (fun j hj => by simp [hj]), f3⟩

end Go.Proofs.Ybulkbxne
