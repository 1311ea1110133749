/- The arguments' readings, opened: a slice of strings. -/
import Derived.Test.YbulkbxnsSet
import Derived.Deep.Slices
import Derived.ProofKit
import Derived.OpenShut
namespace Go.Proofs.Ybulkbxns
open Go.ChangeShapes Go.WideShapes Go.ChangeAt Go.RowKit Go.Proofs.UnionMath
set_option linter.unusedVariables false

theorem cells9 : Yba.prog.cellsOf 9 = 1 := by kernel_rfl

theorem scell_in {w : World} {a : Addr} {v : Value} (h : w.cell? a = some v) : a.block < w.heap.size ∧ a.spot = none := by
  unfold World.cell? at h
  split at h
  · rename_i c e fr hb
    split at h
    · cases h
    · rename_i hs
      exact ⟨(Array.getElem?_eq_some_iff.1 hb).1, by simpa using hs⟩
  · cases h

theorem sadd_plain {b off k : Nat} : (⟨b, off, none⟩ : Addr).add k = ⟨b, off + k, none⟩ := by unfold Addr.add; split <;> simp_all

theorem strs_of {H : Type} {enc : TypeId × Value → H} {W : World} {base : Nat} {sp : Nat → Bool} {held : Bool} {a : Option Addr} {len cap : Nat} {d : DataW H} {ps : List MemPlace}
    (h : DataW.Trod enc Yba.prog W base sp held 22 (.slice a len cap) d ps) : ∃ L, Hid (len = List.length L) ∧ StrsAt W a L ∧ (a = none → L = [] ∧ cap = 0) := by
  obtain ⟨fuel, hf⟩ := h
  rcases Go.Deep.open_slice1 Yba.underlying22 cells9 hf with ⟨hcs, _⟩ | ⟨x, l, c, m, n, V, D, Pl, hcs, _, hl, hm, hmm, _, hV⟩
  · simp [Value.cells] at hcs
    obtain ⟨rfl, rfl, rfl⟩ := hcs
    exact ⟨[], rfl, fun i hi => absurd hi (by simp), fun _ => ⟨rfl, rfl⟩⟩
  · simp [Value.cells] at hcs
    obtain ⟨rfl, rfl, rfl⟩ := hcs
    have hlm : len ≤ m := by rw [hmm]; split <;> omega
    have key : ∀ i, i < len → ∃ q : S, W.cell? (x.add i) = some (sv q) := by
      intro i hi
      obtain ⟨h1, t1⟩ := hV i (by omega)
      cases n with
      | zero => simp [DataW.trod] at t1
      | succ n =>
        simp only [DataW.trod, Yba.underlying9] at t1
        cases hv : V i with
        | string s =>
          rw [hv] at h1
          refine ⟨s.data.toList, ?_⟩
          rw [h1]
          simp [sv]
        | _ => rw [hv] at t1; simp at t1
    obtain ⟨q, hq⟩ := Go.Deep.choose_lt key
    refine ⟨(List.range len).map q, by show _ = _; simp, fun i hi => ?_, fun hx => by cases hx⟩
    have hi' : i < len := by simpa using hi
    have h0 := scell_in (hq 0 (by omega))
    have e0 : x.add 0 = x := by simp [Addr.add]
    rw [e0] at h0
    obtain ⟨b, off, spot⟩ := x
    obtain ⟨hlt, hs⟩ := h0
    dsimp only at hs hlt
    subst hs
    have := hq i hi'
    rw [sadd_plain] at this
    refine ⟨b, off, rfl, hlt, ?_⟩
    rw [this]
    simp [List.getD, hi']

theorem walkMax (a1 : Option Addr) (n1 c1 : Nat) (A : List S) (a2 : Option Addr) (n2 c2 : Nat) (B : List S) (w : World) (e1 : Hid (n1 = A.length)) (e2 : Hid (n2 = B.length)) (hA : StrsAt w a1 A) (hB : StrsAt w a2 B)
    (hA0 : a1 = none → A = [] ∧ c1 = 0) (hB0 : a2 = none → B = [] ∧ c2 = 0) :
    Calls Yba.prog 4 #[.slice a1 n1 c1, .slice a2 n2 c2] w fun e w' => e = .returned (.bool true) ∧ Below w.heap.size w w' := by
  by_cases hn : 1024 < n1 ∨ 1024 < n2
  · exact max_long a1 n1 c1 a2 n2 c2 w hn
  · exact max_short a1 n1 c1 A a2 n2 c2 B w (by omega) (by omega) e1 e2 hA hB hA0 hB0

theorem walkSet (a1 : Option Addr) (n1 c1 : Nat) (A : List S) (a2 : Option Addr) (n2 c2 : Nat) (B : List S) (w : World) (e1 : Hid (n1 = A.length)) (e2 : Hid (n2 = B.length)) (hA : StrsAt w a1 A) (hB : StrsAt w a2 B)
    (hA0 : a1 = none → A = [] ∧ c1 = 0) (hB0 : a2 = none → B = [] ∧ c2 = 0) :
    Calls Yba.prog 3 #[.slice a1 n1 c1, .slice a2 n2 c2] w fun e w' => e = .returned (.bool true) ∧ Below w.heap.size w w' := by
  by_cases hn : 1024 < n1 ∨ 1024 < n2
  · exact set_long a1 n1 c1 a2 n2 c2 w hn
  · exact set_short a1 n1 c1 A a2 n2 c2 B w (by omega) (by omega) e1 e2 hA hB hA0 hB0

end Go.Proofs.Ybulkbxns
