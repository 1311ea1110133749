/- LawS3696CSet: the contracts at the level of blocks, and the law's walk. -/
import Derived.Test.YbulkbxneSetA
namespace Go.Proofs.Ybulkbxne
open Go.RowKit
set_option maxRecDepth 100000
set_option maxHeartbeats 1600000
set_option linter.unusedVariables false
set_option linter.unusedSimpArgs false

/-- only block v has turned -/
structure Touch (v : Nat) (w w' : World) : Prop where
  os : w'.os = w.os
  tape : w'.tape = w.tape
  output : w'.output = w.output
  size : w'.heap.size = w.heap.size
  block : ∀ k, k ≠ v → w'.heap[k]? = w.heap[k]?

theorem Touch.refl (v : Nat) (w : World) : Touch v w w := ⟨rfl, rfl, rfl, rfl, fun _ _ => rfl⟩
theorem Touch.setCell {v : Nat} {a w : World} (h : Touch v a w) (i : Nat) (x : Value) : Touch v a (w.setCell ⟨v, i, none⟩ x) :=
  ⟨h.os, h.tape, h.output, by simpa [World.setCell] using h.size, fun k hk => (Go.RowKit.Below.heap_setCell _ _ _ _ hk).trans (h.block k hk)⟩
theorem Touch.below {v B : Nat} {w w' : World} (h : Touch v w w') (hB : B ≤ v) : Below B w w' :=
  ⟨h.os, h.tape, h.output, by rw [h.size]; exact Nat.le_refl _, fun k hk => h.block k (by omega)⟩

theorem blk_setCell_same (w : World) (v i : Nat) (c : Array Value) (t : TypeId) (x : Value) (h : w.heap[v]? = some (.cells c t (0, 0))) :
    (w.setCell ⟨v, i, none⟩ x).heap[v]? = some (.cells (c.setIfInBounds i x) t (0, 0)) := by
  simp [World.setCell, Array.getElem?_modify, h]

theorem cell_of_blk {w : World} {v : Nat} {c : Array Value} {t : TypeId} (h : w.heap[v]? = some (.cells c t (0, 0))) (i : Nat) : w.cell? ⟨v, i, none⟩ = c[i]? := by
  simp [World.cell?, h]
theorem frozen_of_blk {w : World} {v : Nat} {c : Array Value} {t : TypeId} (h : w.heap[v]? = some (.cells c t (0, 0))) (i : Nat) : w.frozen? ⟨v, i, none⟩ = false := by
  simp [World.frozen?, h]

/-- a matrix's block -/
def matC (n g : Nat) : Array Value := #[.int .i64 1, .int .i64 n, .int .u8 2, .slice none 0 0, .slice (some ⟨g, 0, none⟩) n n]
/-- a variable's block -/
def varC (s : ByteArray) (rg : Bool) (p q : Option Addr) (k : Int) : Array Value := #[.string s, .bool rg, .pointer p, .pointer none, .pointer none, .int .i32 k, .int .u32 0, .pointer q]

theorem set_blk (v m : Nat) (s : ByteArray) (rg : Bool) (p q : Option Addr) (n g : Nat) (w : World) (hv : w.heap[v]? = some (.cells (varC s rg p q 0) 53 (0, 0))) (hm : w.heap[m]? = some (.cells (matC n g) 58 (0, 0))) :
    Calls Yba.prog 10 #[.pointer (some ⟨v, 0, none⟩), .pointer (some ⟨m, 0, none⟩)] w fun e w' => e = .returned (.tuple #[]) ∧
      w'.heap[v]? = some (.cells (varC s rg (some ⟨m, 0, none⟩) none 0) 53 (0, 0)) ∧ Touch v w w' := by
  refine (set_any v m (.int .i64 1) (.pointer p) (.pointer q) w ?_ ?_ ?_ ?_ ?_).mono ?_
  · rw [cell_of_blk hv]; rfl
  · rw [cell_of_blk hv]; rfl
  · rw [cell_of_blk hv]; rfl
  · exact frozen_of_blk hv
  · rw [cell_of_blk hm]; rfl
  · rintro e w' ⟨rfl, rfl⟩
    refine ⟨rfl, ?_, ?_⟩
    · rw [blk_setCell_same _ _ _ _ _ _ (blk_setCell_same _ _ _ _ _ _ (blk_setCell_same _ _ _ _ _ _ (blk_setCell_same _ _ _ _ _ _ hv)))]
      simp [varC]
    · exact ((((Touch.refl v w).setCell _ _).setCell _ _).setCell _ _).setCell _ _

theorem trylock_blk (v : Nat) (s : ByteArray) (rg : Bool) (p q : Option Addr) (w : World) (hv : w.heap[v]? = some (.cells (varC s rg p q 0) 53 (0, 0))) :
    Calls Yba.prog 12 #[.pointer (some ⟨v, 5, none⟩)] w fun e w' => e = .returned (.bool true) ∧ w'.heap[v]? = some (.cells (varC s rg p q 1) 53 (0, 0)) ∧ Touch v w w' := by
  refine (trylock_free ⟨v, 5, none⟩ w (by rw [cell_of_blk hv]; rfl) (frozen_of_blk hv 5)).mono ?_
  rintro e w' ⟨rfl, rfl⟩
  refine ⟨rfl, ?_, (Touch.refl v w).setCell _ _⟩
  rw [blk_setCell_same _ _ _ _ _ _ hv]
  simp [varC]

theorem unlock_blk (v : Nat) (s : ByteArray) (rg : Bool) (p q : Option Addr) (w : World) (hv : w.heap[v]? = some (.cells (varC s rg p q 1) 53 (0, 0))) :
    Calls Yba.prog 13 #[.pointer (some ⟨v, 5, none⟩)] w fun e w' => e = .returned (.tuple #[]) ∧ w'.heap[v]? = some (.cells (varC s rg p q 0) 53 (0, 0)) ∧ Touch v w w' := by
  refine (unlock_held ⟨v, 5, none⟩ w (by rw [cell_of_blk hv]; rfl) (frozen_of_blk hv 5)).mono ?_
  rintro e w' ⟨rfl, rfl⟩
  refine ⟨rfl, ?_, (Touch.refl v w).setCell _ _⟩
  rw [blk_setCell_same _ _ _ _ _ _ hv]
  simp [varC]

/-- a slice of floats that came in (or nil) -/
def IsF (w : World) (a : Option Addr) (len : Nat) (fs : Nat → Nat) : Prop :=
  ∀ i, i < len → ∃ b off, a = some ⟨b, off, none⟩ ∧ b < w.heap.size ∧ w.cell? ⟨b, off + i, none⟩ = some (.float .f64 (fs i))

theorem IsF.later {w w' : World} {a : Option Addr} {len : Nat} {fs : Nat → Nat} (h : IsF w a len fs) (hb : Below w.heap.size w w') : IsF w' a len fs := by
  intro i hi
  obtain ⟨b, off, e, hlt, hc⟩ := h i hi
  exact ⟨b, off, e, Nat.lt_of_lt_of_le hlt hb.size, by rw [hb.cell (p := ⟨b, off + i, none⟩) hlt]; exact hc⟩

theorem cmat_blk (a : Option Addr) (len cap : Nat) (fs : Nat → Nat) (w : World) (hlen : len ≤ 1024) (hc : IsF w a len fs) :
    Calls Yba.prog 8 #[.slice a len cap] w fun e w' => e = .returned (.pointer (some ⟨w.heap.size + 1, 0, none⟩)) ∧
      w'.heap[w.heap.size]? = some (.cells (rowF fs len) 25 (0, 0)) ∧ w'.heap[w.heap.size + 1]? = some (.cells (matC len w.heap.size) 58 (0, 0)) ∧ w'.heap.size = w.heap.size + 2 ∧ Below w.heap.size w w' := by
  refine (cmat_any a len cap fs w hlen ?_).mono ?_
  · intro i hi
    obtain ⟨b, off, e, hlt, hcell⟩ := hc i hi
    refine ⟨_, e, hlt, ?_⟩
    rw [← hcell]
    unfold Addr.add
    split <;> simp_all
  · rintro e w' ⟨rfl, rfl⟩
    refine ⟨rfl, ?_, ?_, ?_, ?_⟩
    · rw [Go.Deep.blk_alloc_lt _ _ _ (by simp), Go.Deep.blk_alloc_new]
    · have := Go.Deep.blk_alloc_new (w.alloc (.cells (rowF fs len) 25)) (.cells #[.int .i64 1, .int .i64 len, .int .u8 2, .slice none 0 0, .slice (some ⟨w.heap.size, 0, none⟩) len len] 58)
      simpa [matC] using this
    · simp
    · exact ((Below.refl _ _).alloc (Nat.le_refl _) _).alloc (by simp) _

theorem csame_blk (m g n : Nat) (a : Option Addr) (cap : Nat) (fs : Nat → Nat) (w : World) (hn : n ≤ 1024) (hm : w.heap[m]? = some (.cells (matC n g) 58 (0, 0))) (hg : w.heap[g]? = some (.cells (rowF fs n) 25 (0, 0))) (hc : IsF w a n fs) :
    Calls Yba.prog 14 #[.pointer (some ⟨m, 0, none⟩), .slice a n cap] w fun e w' => e = .returned (.bool true) ∧ ∃ k, w' = w.drewN k := by
  refine csame_any m g n a cap fs w hn ?_ ?_ ?_ ?_ ?_ ?_ ?_
  · rw [cell_of_blk hm]; rfl
  · rw [cell_of_blk hm]; rfl
  · rw [cell_of_blk hm]; rfl
  · rw [cell_of_blk hm]; rfl
  · rw [cell_of_blk hm]; rfl
  · intro i hi
    rw [cell_of_blk hg]
    simp [rowF, hi]
  · intro i hi
    obtain ⟨b, off, e, hlt, hcell⟩ := hc i hi
    exact ⟨b, off, e, hcell⟩

theorem walk_long (s : ByteArray) (rg hg : Bool) (a0 : Option Addr) (l0 c0 : Nat) (a1 : Option Addr) (l1 c1 : Nat) (a2 : Option Addr) (l2 c2 : Nat) (w : World) (h : 1024 < l0 ∨ 1024 < l1 ∨ 1024 < l2) :
    Calls Yba.prog 4 #[.string s, .bool rg, .bool hg, .slice a0 l0 c0, .slice a1 l1 c1, .slice a2 l2 c2] w fun e w' => e = .returned (.bool true) ∧ Below w.heap.size w w' := by
  by_cases h0 : (1024 : Int) < l0
  · go_enter Yba.func4, Yba.ntmps4
    go_wp2
    go_ret
    exact ⟨rfl, Below.refl _ _⟩
  · by_cases h1 : (1024 : Int) < l1
    · go_enter Yba.func4, Yba.ntmps4
      go_wp2
      go_ret
      exact ⟨rfl, Below.refl _ _⟩
    · have h2 : (1024 : Int) < l2 := by omega
      go_enter Yba.func4, Yba.ntmps4
      go_wp2
      go_ret
      exact ⟨rfl, Below.refl _ _⟩

end Go.Proofs.Ybulkbxne
