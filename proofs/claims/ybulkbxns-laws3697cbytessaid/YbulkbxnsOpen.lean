/- The arguments' readings, opened: a slice of pairs of uint64, a slice of bytes. -/
import Derived.Test.YbulkbxnsLaw5
import Derived.Deep.SlicePairs
import Derived.ProofKit
import Derived.OpenShut
namespace Go.Proofs.Ybulkbxns
open Go.ChangeShapes Go.WideShapes Go.ChangeAt Go.RowKit
set_option linter.unusedVariables false

theorem cells48 : Yba.prog.cellsOf 48 = 2 := by kernel_rfl
theorem cells44 : Yba.prog.cellsOf 44 = 1 := by kernel_rfl
theorem cells5 : Yba.prog.cellsOf 5 = 1 := by kernel_rfl

theorem cell_in {w : World} {a : Addr} {v : Value} (h : w.cell? a = some v) : a.block < w.heap.size ∧ a.spot = none := by
  unfold World.cell? at h
  split at h
  · rename_i c e fr hb
    split at h
    · cases h
    · rename_i hs
      exact ⟨(Array.getElem?_eq_some_iff.1 hb).1, by simpa using hs⟩
  · cases h

theorem add_plain {b off k : Nat} : (⟨b, off, none⟩ : Addr).add k = ⟨b, off + k, none⟩ := by unfold Addr.add; split <;> simp_all

theorem dirs_of {H : Type} {enc : TypeId × Value → H} {W : World} {base : Nat} {sp : Nat → Bool} {held : Bool} {a : Option Addr} {len cap : Nat} {d : DataW H} {ps : List MemPlace}
    (h : DataW.Trod enc Yba.prog W base sp held 31 (.slice a len cap) d ps) : ∃ dv io, DirsAt W a len dv io ∧ (a = none → len = 0 ∧ cap = 0) := by
  obtain ⟨fuel, hf⟩ := h
  rcases Go.Deep.open_slice_pairs Yba.underlying31 Yba.underlying48 cells48 rfl rfl cells44 cells44 hf with ⟨hcs, _⟩ | ⟨x, l, c, m, n, V0, V1, D0, D1, P0, P1, hcs, _, hl, hm, hmm, _, hV⟩
  · simp [Value.cells] at hcs
    obtain ⟨rfl, rfl, rfl⟩ := hcs
    exact ⟨fun _ => 0, fun _ => 0, fun i hi => absurd hi (by omega), fun _ => ⟨rfl, rfl⟩⟩
  · simp [Value.cells] at hcs
    obtain ⟨rfl, rfl, rfl⟩ := hcs
    have hlm : len ≤ m := by rw [hmm]; split <;> omega
    have key : ∀ i, i < len → ∃ q : Int × Int, W.cell? (x.add (i * 2)) = some (.int .u64 q.1) ∧ W.cell? (x.add (i * 2 + 1)) = some (.int .u64 q.2) ∧ (0 ≤ q.1 ∧ q.1 < 18446744073709551616) ∧ (0 ≤ q.2 ∧ q.2 < 18446744073709551616) := by
      intro i hi
      obtain ⟨h1, h2, t1, t2⟩ := hV i (by omega)
      obtain ⟨n1, e1, _, w1⟩ := DataW.trod_int Yba.underlying44 t1
      obtain ⟨n2, e2, _, w2⟩ := DataW.trod_int Yba.underlying44 t2
      simp only [List.cons.injEq, and_true] at e1 e2
      rw [e1] at h1
      rw [e2] at h2
      refine ⟨(n1, n2), h1, h2, ?_, ?_⟩
      · have := bounds_u64 w1; omega
      · have := bounds_u64 w2; omega
    obtain ⟨q, hq⟩ := Go.Deep.choose_lt key
    refine ⟨fun i => (q i).1, fun i => (q i).2, fun i hi => ?_, fun hx => by cases hx⟩
    have h0 := cell_in (hq 0 (by omega)).1
    have e0 : x.add (0 * 2) = x := by simp [Addr.add]
    rw [e0] at h0
    obtain ⟨b, off, spot⟩ := x
    obtain ⟨hlt, hs⟩ := h0
    dsimp only at hs hlt
    subst hs
    have := hq i hi
    rw [add_plain, add_plain, ← Nat.add_assoc] at this
    exact ⟨b, off, rfl, hlt, this.1, this.2.1, this.2.2.1.1, this.2.2.1.2, this.2.2.2.1, this.2.2.2.2⟩

theorem bytes_of {H : Type} {enc : TypeId × Value → H} {W : World} {base : Nat} {sp : Nat → Bool} {held : Bool} {a : Option Addr} {len cap : Nat} {d : DataW H} {ps : List MemPlace}
    (h : DataW.Trod enc Yba.prog W base sp held 32 (.slice a len cap) d ps) : ∃ bs, BytesAt W a len bs ∧ (a = none → len = 0 ∧ cap = 0) := by
  obtain ⟨fuel, hf⟩ := h
  rcases Go.Deep.open_slice1 Yba.underlying32 cells5 hf with ⟨hcs, _⟩ | ⟨x, l, c, m, n, V, D, Pl, hcs, _, hl, hm, hmm, _, hV⟩
  · simp [Value.cells] at hcs
    obtain ⟨rfl, rfl, rfl⟩ := hcs
    exact ⟨fun _ => 0, fun i hi => absurd hi (by omega), fun _ => ⟨rfl, rfl⟩⟩
  · simp [Value.cells] at hcs
    obtain ⟨rfl, rfl, rfl⟩ := hcs
    have hlm : len ≤ m := by rw [hmm]; split <;> omega
    have key : ∀ i, i < len → ∃ q : Int, W.cell? (x.add i) = some (.int .u8 q) := by
      intro i hi
      obtain ⟨h1, t1⟩ := hV i (by omega)
      obtain ⟨n1, e1, _, w1⟩ := DataW.trod_int Yba.underlying5 t1
      simp only [List.cons.injEq, and_true] at e1
      rw [e1] at h1
      exact ⟨n1, h1⟩
    obtain ⟨q, hq⟩ := Go.Deep.choose_lt key
    refine ⟨q, fun i hi => ?_, fun hx => by cases hx⟩
    have h0 := cell_in (hq 0 (by omega))
    have e0 : x.add 0 = x := by simp [Addr.add]
    rw [e0] at h0
    obtain ⟨b, off, spot⟩ := x
    obtain ⟨hlt, hs⟩ := h0
    dsimp only at hs hlt
    subst hs
    have := hq i hi
    rw [add_plain] at this
    exact ⟨b, off, rfl, hlt, this⟩

theorem walk5 (boot : ByteArray) (a : Option Addr) (n c : Nat) (dv io : Nat → Int) (ap : Option Addr) (np cp : Nat) (ps : Nat → Int) (w : World)
    (hd : DirsAt w a n dv io) (h0 : a = none → n = 0 ∧ c = 0) (hp : BytesAt w ap np ps) (hp0 : ap = none → np = 0 ∧ cp = 0) :
    Calls Yba.prog 5 #[.string boot, .slice a n c, .slice ap np cp] w fun e w' => e = .returned (.bool true) ∧ Below w.heap.size w w' := by
  by_cases h : 1024 < n ∨ 4096 < np ∨ 65536 < boot.size
  · exact law5_long boot a n c ap np cp w h
  · cases ap with
    | none =>
      obtain ⟨rfl, rfl⟩ := hp0 rfl
      exact law5_short_nil boot a n c dv io ps w (by omega) (by omega) (by omega) hd h0 hp
    | some ap => exact law5_short_some boot a n c dv io ap np cp ps w (by omega) (by omega) (by omega) hd h0 hp

theorem walk6 (boot : ByteArray) (a : Option Addr) (n c : Nat) (dv io : Nat → Int) (w : World) (hd : DirsAt w a n dv io) (h0 : a = none → n = 0 ∧ c = 0) :
    Calls Yba.prog 6 #[.string boot, .slice a n c] w fun e w' => e = .returned (.bool true) ∧ Below w.heap.size w w' := by
  by_cases h : 1024 < n ∨ 65536 < boot.size
  · exact law6_long boot a n c w h
  · exact law6_short boot a n c dv io w (by omega) (by omega) hd h0

end Go.Proofs.Ybulkbxns
