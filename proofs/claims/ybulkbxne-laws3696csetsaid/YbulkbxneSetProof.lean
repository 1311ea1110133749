/- LawS3696CSetSaid: the row, out of the walk. -/
import Derived.Test.YbulkbxneRows
import Derived.Test.YbulkbxneSetC
import Derived.ProofKit
import Derived.OpenShut
import Derived.ShutString
import Derived.ChangeOld
import Derived.Below
import Derived.Deep.Slices
namespace Go.Proofs.Ybulkbxne.lawS3696CSet
open Go.ChangeShapes Go.WideShapes Go.ChangeAt Go.RowKit
open Go.ChangeMaps (open_string shut_string)
set_option linter.unusedVariables false

theorem own : ownKnob Yba.prog.godebug = none := by kernel_rfl
theorem laidOut : laidOutB Yba.prog = true := by kernel_rfl
theorem cells25 : Yba.prog.cellsOf 25 = 1 := by kernel_rfl

theorem walk (s : ByteArray) (rg hg : Bool) (a0 : Option Addr) (l0 c0 : Nat) (f0 : Nat → Nat) (a1 : Option Addr) (l1 c1 : Nat) (f1 : Nat → Nat) (a2 : Option Addr) (l2 c2 : Nat) (f2 : Nat → Nat) (w : World)
    (i0 : IsF w a0 l0 f0) (i1 : IsF w a1 l1 f1) (i2 : IsF w a2 l2 f2) :
    Calls Yba.prog 4 #[.string s, .bool rg, .bool hg, .slice a0 l0 c0, .slice a1 l1 c1, .slice a2 l2 c2] w fun e w' => e = .returned (.bool true) ∧ Below w.heap.size w w' := by
  by_cases h : 1024 < l0 ∨ 1024 < l1 ∨ 1024 < l2
  · exact walk_long s rg hg a0 l0 c0 a1 l1 c1 a2 l2 c2 w h
  · exact walk_short s rg hg a0 l0 c0 f0 a1 l1 c1 f1 a2 l2 c2 f2 w (by omega) (by omega) (by omega) i0 i1 i2

theorem cell_lt {w : World} {a : Addr} {v : Value} (h : w.cell? a = some v) : a.block < w.heap.size ∧ a.spot = none := by
  unfold World.cell? at h
  split at h
  · rename_i c e fr hb
    split at h
    · cases h
    · rename_i hs
      exact ⟨(Array.getElem?_eq_some_iff.1 hb).1, by simpa using hs⟩
  · cases h

theorem isF_of {H : Type} {enc : TypeId × Value → H} {W : World} {base : Nat} {sp : Nat → Bool} {held : Bool} {a : Option Addr} {len cap : Nat} {d : DataW H} {ps : List MemPlace}
    (h : DataW.Trod enc Yba.prog W base sp held 24 (.slice a len cap) d ps) : ∃ fs, IsF W a len fs := by
  obtain ⟨fuel, hf⟩ := h
  rcases Go.Deep.open_slice1 Yba.underlying24 cells25 hf with ⟨hcs, _⟩ | ⟨x, l, c, m, n, V, D, Pl, hcs, _, hl, hm, hmm, _, hV⟩
  · simp [Value.cells] at hcs
    obtain ⟨rfl, rfl, rfl⟩ := hcs
    exact ⟨fun _ => 0, fun i hi => absurd hi (by omega)⟩
  · simp [Value.cells] at hcs
    obtain ⟨rfl, rfl, rfl⟩ := hcs
    have hlm : len ≤ m := by rw [hmm]; split <;> omega
    have key : ∀ i, i < len → ∃ b, W.cell? (x.add i) = some (.float .f64 b) := by
      intro i hi
      obtain ⟨h1, h2⟩ := hV i (by omega)
      cases n with
      | zero => simp [DataW.trod] at h2
      | succ n =>
        simp only [DataW.trod, Yba.underlying25] at h2
        cases hv : V i with
        | float k b =>
          rw [hv] at h1 h2
          dsimp only at h2
          split at h2
          · rename_i hk
            obtain ⟨rfl, _⟩ := hk
            exact ⟨b, h1⟩
          · cases h2
        | _ => rw [hv] at h2; simp at h2
    obtain ⟨fs, hfs⟩ := Go.Deep.choose_lt key
    refine ⟨fs, fun i hi => ?_⟩
    have h0 := (cell_lt (hfs 0 (by omega)))
    have e0 : x.add 0 = x := by simp [Addr.add]
    rw [e0] at h0
    obtain ⟨b, off, spot⟩ := x
    obtain ⟨hlt, hs⟩ := h0
    dsimp only at hs hlt
    subst hs
    refine ⟨b, off, rfl, hlt, ?_⟩
    rw [← hfs i hi]
    unfold Addr.add
    split <;> simp_all

set_option maxRecDepth 100000 in
theorem lifted (os : Os) (started : os.Started) (H : Type) (enc : TypeId × Value → H) :
    ReturnsInHanded {} Yba.checked os 4 .any (Rows.lawS3696CSetSpec.pre6 enc Yba.prog Yba.f4 Rows.lawS3696CSetRow.domain false) (Rows.lawS3696CSetSpec.post enc Yba.prog Yba.f4 false true false false) := by
  refine returnsInHanded_of_change (C := Yba.checked) own started (by kernel_rfl) Yba.func4
    (ChangeSpec.witness6 (enc := enc) (C := Yba.checked) false ⟨#[], #[.string ByteArray.empty, .bool false, .bool false, .slice none 0 0, .slice none 0 0, .slice none 0 0], []⟩ 8 (by kernel_rfl) (by kernel_rfl) (by kernel_rfl) (by kernel_rfl)) ?_
  intro W base args ds gs before hval0 hW hcnd _
  have hval : ∀ (j : Nat) t v, Yba.f4.params[j]? = some t → args[j]? = some v → Value.okWide Yba.prog W .any base t v := hval0
  have hW' := hW
  obtain ⟨p, q, hA0, hV, rfl, hfz, hnd⟩ := hW
  have hA : DataW.TrodAll enc Yba.prog W 0 (fun _ => true) true Yba.f4.params.toList args.toList ds p := hA0
  rw [Yba.params4] at hA hval
  obtain ⟨v0, vs0, d0, ds0, p0, q0, hargs, rfl, rfl, h0, r0⟩ := trodAll_cons hA
  obtain ⟨v1, vs1, d1, ds1, p1, q1, rfl, rfl, rfl, h1, r1⟩ := trodAll_cons r0
  obtain ⟨v2, vs2, d2, ds2, p2, q2, rfl, rfl, rfl, h2, r2⟩ := trodAll_cons r1
  obtain ⟨v3, vs3, d3, ds3, p3, q3, rfl, rfl, rfl, h3, r3⟩ := trodAll_cons r2
  obtain ⟨v4, vs4, d4, ds4, p4, q4, rfl, rfl, rfl, h4, r4⟩ := trodAll_cons r3
  obtain ⟨v5, vs5, d5, ds5, p5, q5, rfl, rfl, rfl, h5, r5⟩ := trodAll_cons r4
  obtain ⟨rfl, rfl, rfl⟩ := trodAll_nil r5
  obtain rfl : args = #[v0, v1, v2, v3, v4, v5] := by cases args; simp_all
  obtain ⟨rfl, rfl⟩ := trodVars_none hV
  obtain ⟨s, rfl, rfl, rfl, hs⟩ := open_string Yba.underlying9 (hval 0 9 v0 rfl rfl) h0
  obtain ⟨x1, rfl, rfl, rfl⟩ := open_bool Yba.underlying4 (hval 1 4 v1 rfl rfl) h1
  obtain ⟨x2, rfl, rfl, rfl⟩ := open_bool Yba.underlying4 (hval 2 4 v2 rfl rfl) h2
  obtain ⟨a3, len3, cap3, rfl⟩ := okWide_slice Yba.underlying24 (hval 3 24 v3 rfl rfl)
  have lt3 : ∀ x ∈ p3, x.block < W.heap.size := by obtain ⟨m, hm⟩ := h3; exact DataW.trod_lt m _ _ _ hm
  obtain ⟨f3, i3⟩ := isF_of h3
  obtain ⟨a4, len4, cap4, rfl⟩ := okWide_slice Yba.underlying24 (hval 4 24 v4 rfl rfl)
  have lt4 : ∀ x ∈ p4, x.block < W.heap.size := by obtain ⟨m, hm⟩ := h4; exact DataW.trod_lt m _ _ _ hm
  obtain ⟨f4, i4⟩ := isF_of h4
  obtain ⟨a5, len5, cap5, rfl⟩ := okWide_slice Yba.underlying24 (hval 5 24 v5 rfl rfl)
  have lt5 : ∀ x ∈ p5, x.block < W.heap.size := by obtain ⟨m, hm⟩ := h5; exact DataW.trod_lt m _ _ _ hm
  obtain ⟨f5, i5⟩ := isF_of h5
  clear hA0 hval0
  refine (walk s x1 x2 a3 len3 cap3 f3 a4 len4 cap4 f4 a5 len5 cap5 f5 W i3 i4 i5).mono fun e W' ⟨he, bel⟩ => ?_
  subst he
  exact ⟨_, rfl, _, _, _, [], _, [], hW', trodAll_mk1 (shut_bool Yba.underlying4 _), (trodAll_cons_mk (shut_string Yba.underlying9 hs) (trodAll_cons_mk (shut_bool Yba.underlying4 _) (trodAll_cons_mk (shut_bool Yba.underlying4 _) (trodAll_cons_mk (Below.trod laidOut (by kernel_rfl) (of_decide_eq_true (by kernel_rfl)) h3 bel lt3) (trodAll_cons_mk (Below.trod laidOut (by kernel_rfl) (of_decide_eq_true (by kernel_rfl)) h4 bel lt4) (trodAll_cons_mk (Below.trod laidOut (by kernel_rfl) (of_decide_eq_true (by kernel_rfl)) h5 bel lt5) trodAll_mk0)))))), rfl, bel.frame _, fun h => by cases h⟩

theorem over : Rows.lawS3696CSetRow.holds Yba.pinned (OpenSpec.ofChange Rows.lawS3696CSetSpec) :=
  OpenClaim.holds_of_wide 4 Yba.f4 rfl rfl rfl rfl rfl rfl rfl ⟨rfl, rfl, rfl, rfl, rfl⟩ rfl rfl rfl rfl rfl (by kernel_rfl) Yba.func4 (by kernel_rfl)
    (of_decide_eq_true (by kernel_rfl)) (by unfold Func.isWrapper; first | (rw [if_pos (by decide +kernel)]; kernel_rfl) | (rw [if_neg (by decide +kernel)]; exact ⟨rfl, rfl⟩))
    (fun os started H enc _ => lifted os started H enc)

theorem proved : Rows.LawS3696CSetSaid := over
end Go.Proofs.Ybulkbxne.lawS3696CSet
