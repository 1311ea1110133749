/- The arguments' readings, opened: a slice of uint64. -/
import Derived.Test.YbulkbxpwLaws
import Derived.Deep.Slices
import Derived.ProofKit
import Derived.OpenShut
namespace Go.Proofs.Ybulkbxpw
open Go.ChangeShapes Go.WideShapes Go.ChangeAt Go.RowKit
set_option linter.unusedVariables false

theorem cells23 : Yba.prog.cellsOf 23 = 1 := by kernel_rfl

theorem cell_in {w : World} {a : Addr} {v : Value} (h : w.cell? a = some v) : a.block < w.heap.size ∧ a.spot = none := by
  unfold World.cell? at h
  split at h
  · rename_i c e fr hb
    split at h
    · cases h
    · rename_i hs
      exact ⟨(Array.getElem?_eq_some_iff.1 hb).1, by simpa using hs⟩
  · cases h

theorem add_plain {b off k : Nat} : (⟨b, off, none⟩ : Addr).add k = ⟨b, off + k, none⟩ := by unfold Addr.add; split <;> simp_all

theorem ints_of {H : Type} {enc : TypeId × Value → H} {W : World} {base : Nat} {sp : Nat → Bool} {held : Bool} {a : Option Addr} {len cap : Nat} {d : DataW H} {ps : List MemPlace}
    (h : DataW.Trod enc Yba.prog W base sp held 22 (.slice a len cap) d ps) : ∃ zs, IntsAt W a len zs := by
  obtain ⟨fuel, hf⟩ := h
  rcases Go.Deep.open_slice1 Yba.underlying22 cells23 hf with ⟨hcs, _⟩ | ⟨x, l, c, m, n, V, D, Pl, hcs, _, hl, hm, hmm, _, hV⟩
  · simp [Value.cells] at hcs
    obtain ⟨rfl, rfl, rfl⟩ := hcs
    exact ⟨fun _ => 0, fun i hi => absurd hi (by omega)⟩
  · simp [Value.cells] at hcs
    obtain ⟨rfl, rfl, rfl⟩ := hcs
    have hlm : len ≤ m := by rw [hmm]; split <;> omega
    have key : ∀ i, i < len → ∃ q : Int, W.cell? (x.add i) = some (.int .u64 q) := by
      intro i hi
      obtain ⟨h1, t1⟩ := hV i (by omega)
      obtain ⟨n1, e1, _, w1⟩ := DataW.trod_int Yba.underlying23 t1
      simp only [List.cons.injEq, and_true] at e1
      rw [e1] at h1
      exact ⟨n1, h1⟩
    obtain ⟨q, hq⟩ := Go.Deep.choose_lt key
    refine ⟨q, fun i hi => ?_⟩
    have h0 := cell_in (hq 0 (by omega))
    have e0 : x.add 0 = x := by simp [Addr.add]
    rw [e0] at h0
    obtain ⟨b, off, spot⟩ := x
    obtain ⟨hlt, hs⟩ := h0
    dsimp only at hs hlt
    subst hs
    have := hq i hi
    rw [add_plain] at this
    exact ⟨b, off, rfl, hlt, this⟩

theorem walk4 (a : Option Addr) (n c : Nat) (zs : Nat → Int) (on : Bool) (Q : Int) (w : World) (h : IntsAt w a n zs) :
    Calls Yba.prog 4 #[.slice a n c, .bool on, .int .u64 Q] w fun e w' => e = .returned (.bool true) ∧ Below w.heap.size w w' := by
  by_cases hn : 1024 < n
  · exact one_long a n c on Q w hn
  · cases on with
    | true => exact one_short_true a n c zs Q w (by omega) h
    | false => exact one_short_false a n c zs Q w (by omega) h

theorem walk3 (a1 : Option Addr) (n1 c1 : Nat) (z1 : Nat → Int) (a2 : Option Addr) (n2 c2 : Nat) (z2 : Nat → Int) (Q : Int) (w : World) (i1 : IntsAt w a1 n1 z1) (i2 : IntsAt w a2 n2 z2) :
    Calls Yba.prog 3 #[.slice a1 n1 c1, .slice a2 n2 c2, .int .u64 Q] w fun e w' => e = .returned (.bool true) ∧ Below w.heap.size w w' := by
  by_cases hn : 1024 < n1 ∨ 1024 < n2
  · exact pend_long a1 n1 c1 a2 n2 c2 Q w hn
  · exact pend_short a1 n1 c1 z1 a2 n2 c2 z2 Q w (by omega) (by omega) i1 i2

end Go.Proofs.Ybulkbxpw
