/- LawS3696ARunSaid: the row, out of the walk. -/
import Derived.Test.YbulkbxneRows
import Derived.Test.YbulkbxneRunG
import Derived.WalkKit
import Derived.ProofKit
import Derived.OpenShut
import Derived.ShutString
import Derived.ChangeOld
import Derived.Below
namespace Go.Proofs.Ybulkbxne.lawS3696ARun
open Go.ChangeShapes Go.WideShapes Go.ChangeAt Go.RowKit
open Go.ChangeMaps (open_string shut_string)
set_option linter.unusedVariables false

theorem own : ownKnob Yba.prog.godebug = none := by kernel_rfl
theorem laidOut : laidOutB Yba.prog = true := by kernel_rfl

/-- WHAT THE WALK IS TOLD OF A SLICE OF INTEGERS THAT CAME IN: it is nil; or it leads to a row of 'cap' cells, the numbers 'zs' (the first 'len' are its elements, the rest its spare room), each fitting its kind. -/
def IsRow (k : IntKind) (w : World) (a : Option Addr) (len cap : Nat) (zs : List Int) : Prop :=
  (a = none ∧ len = 0 ∧ cap = 0 ∧ zs = []) ∨
  ∃ x, a = some x ∧ len ≤ cap ∧ cap ≤ maxLen ∧ zs.length = cap ∧ (∀ i, i < zs.length → w.cell? (x.add i) = some (.int k (zs.getD i 0))) ∧ ∀ n ∈ zs, (Lit.int k n).wf = true

theorem cell_lt {w : World} {a : Addr} {v : Value} (h : w.cell? a = some v) : a.block < w.heap.size ∧ a.spot = none := by
  unfold World.cell? at h
  split at h
  · rename_i c e fr hb
    split at h
    · cases h
    · rename_i hs
      exact ⟨(Array.getElem?_eq_some_iff.1 hb).1, by simpa using hs⟩
  · cases h

theorem wf_range {k : IntKind} {a lo hi : Int} (h : (Lit.int k a).wf = true) (h1 : k.min = lo) (h2 : k.max = hi) : lo ≤ a ∧ a ≤ hi := by
  have h' : (decide (k.min ≤ a) && decide (a ≤ k.max)) = true := h
  rw [Bool.and_eq_true, decide_eq_true_eq, decide_eq_true_eq, h1, h2] at h'
  exact h'

theorem isI_of {w : World} {a : Option Addr} {len cap : Nat} {zs : List Int} (h : IsRow .i16 w a len cap zs) : IsI w a len (fun i => zs.getD i 0) ∧ ∀ i, -32768 ≤ zs.getD i 0 ∧ zs.getD i 0 ≤ 32767 := by
  rcases h with ⟨rfl, rfl, rfl, rfl⟩ | ⟨x, rfl, hl, hm, hz, hc, hw⟩
  · exact ⟨fun i hi => absurd hi (by omega), fun i => by simp⟩
  · refine ⟨fun i hi => ?_, fun i => ?_⟩
    · have h0 := cell_lt (hc 0 (by omega))
      have e0 : x.add 0 = x := by simp [Addr.add]
      rw [e0] at h0
      obtain ⟨b, off, spot⟩ := x
      obtain ⟨hlt, hs⟩ := h0
      dsimp only at hs hlt
      subst hs
      refine ⟨b, off, rfl, hlt, ?_⟩
      rw [← hc i (by omega)]
      unfold Addr.add
      split <;> simp_all
    · by_cases hi : i < zs.length
      · have hmem : zs.getD i 0 ∈ zs := by
          rw [List.getD_eq_getElem?_getD, List.getElem?_eq_getElem hi]
          exact List.getElem_mem hi
        exact wf_range (hw _ hmem) (by decide) (by decide)
      · rw [List.getD_eq_getElem?_getD, List.getElem?_eq_none (by omega)]
        simp

theorem u8_nat {a : Int} (h : (Lit.int .u8 a).wf = true) : ∃ m : Nat, m ≤ 255 ∧ a = m := by
  have h' : 0 ≤ a ∧ a ≤ 255 := wf_range h (by decide) (by decide)
  exact ⟨a.toNat, by omega, by omega⟩
theorem u16_nat {a : Int} (h : (Lit.int .u16 a).wf = true) : ∃ m : Nat, m ≤ 65535 ∧ a = m := by
  have h' : 0 ≤ a ∧ a ≤ 65535 := wf_range h (by decide) (by decide)
  exact ⟨a.toNat, by omega, by omega⟩

theorem walk (a0 : Int) (a1 : Option Addr) (len1 cap1 : Nat) (z1 : List Int) (a2 : Option Addr) (len2 cap2 : Nat) (z2 : List Int) (a3 : Int) (a4 : Int) (a5 : Int) (w : World) (w0 : (Lit.int .u8 a0).wf = true) (w1 : IsRow .i16 w a1 len1 cap1 z1) (w2 : IsRow .i16 w a2 len2 cap2 z2) (w3 : (Lit.int .u8 a3).wf = true) (w4 : (Lit.int .u16 a4).wf = true) (w5 : (Lit.int .u16 a5).wf = true) :
    Calls Yba.prog 3 #[.int .u8 a0, .slice a1 len1 cap1, .slice a2 len2 cap2, .int .u8 a3, .int .u16 a4, .int .u16 a5] w fun e w' => e = .returned (.bool true) ∧ Below w.heap.size w w' := by
  by_cases h : (1024 : Int) < (len1 : Int)
  · exact law3_long a0 a3 a4 a5 a1 len1 cap1 a2 len2 cap2 w h
  · obtain ⟨m0, h0, rfl⟩ := u8_nat w0
    obtain ⟨m3, h3, rfl⟩ := u8_nat w3
    obtain ⟨m4, h4, rfl⟩ := u16_nat w4
    obtain ⟨m5, h5, rfl⟩ := u16_nat w5
    obtain ⟨i1, b1⟩ := isI_of w1
    obtain ⟨i2, b2⟩ := isI_of w2
    by_cases hm : m0 % 2 = 0
    · exact law3 .f32 m0 m3 m4 m5 a1 len1 cap1 _ a2 len2 cap2 _ w (by omega) h0 (by rw [hm]; rfl) h3 h4 h5 i1 i2 b1 b2
    · have hm1 : m0 % 2 = 1 := by omega
      exact law3 .f64 m0 m3 m4 m5 a1 len1 cap1 _ a2 len2 cap2 _ w (by omega) h0 (by rw [hm1]; rfl) h3 h4 h5 i1 i2 b1 b2

/-! ### THE ROW's STEP: WRITTEN OUT: LEAVE IT -/
set_option maxRecDepth 100000 in
theorem lifted (os : Os) (started : os.Started) (H : Type) (enc : TypeId × Value → H) :
    ReturnsInHanded {} Yba.checked os 3 .any (Rows.lawS3696ARunSpec.pre6 enc Yba.prog Yba.f3 Rows.lawS3696ARunRow.domain false) (Rows.lawS3696ARunSpec.post enc Yba.prog Yba.f3 false true false false) := by
  refine returnsInHanded_of_change (C := Yba.checked) own started (by kernel_rfl) Yba.func3
    (ChangeSpec.witness6 (enc := enc) (C := Yba.checked) false ⟨#[], #[.int .u8 0, .slice none 0 0, .slice none 0 0, .int .u8 0, .int .u16 0, .int .u16 0], []⟩ 8 (by kernel_rfl) (by kernel_rfl) (by kernel_rfl) (by kernel_rfl)) ?_
  intro W base args ds gs before hval0 hW hcnd _
  have hval : ∀ (j : Nat) t v, Yba.f3.params[j]? = some t → args[j]? = some v → Value.okWide Yba.prog W .any base t v := hval0
  have hW' := hW
  obtain ⟨p, q, hA0, hV, rfl, hfz, hnd⟩ := hW
  have hA : DataW.TrodAll enc Yba.prog W 0 (fun _ => true) true Yba.f3.params.toList args.toList ds p := hA0
  rw [Yba.params3] at hA hval
  obtain ⟨v0, vs0, d0, ds0, p0, q0, hargs, rfl, rfl, h0, r0⟩ := trodAll_cons hA
  obtain ⟨v1, vs1, d1, ds1, p1, q1, rfl, rfl, rfl, h1, r1⟩ := trodAll_cons r0
  obtain ⟨v2, vs2, d2, ds2, p2, q2, rfl, rfl, rfl, h2, r2⟩ := trodAll_cons r1
  obtain ⟨v3, vs3, d3, ds3, p3, q3, rfl, rfl, rfl, h3, r3⟩ := trodAll_cons r2
  obtain ⟨v4, vs4, d4, ds4, p4, q4, rfl, rfl, rfl, h4, r4⟩ := trodAll_cons r3
  obtain ⟨v5, vs5, d5, ds5, p5, q5, rfl, rfl, rfl, h5, r5⟩ := trodAll_cons r4
  obtain ⟨rfl, rfl, rfl⟩ := trodAll_nil r5
  obtain rfl : args = #[v0, v1, v2, v3, v4, v5] := by cases args; simp_all
  obtain ⟨rfl, rfl⟩ := trodVars_none hV
  obtain ⟨a0, rfl, rfl, rfl, w0⟩ := open_int Yba.underlying5 (hval 0 5 v0 rfl rfl) h0
  obtain ⟨a1, len1, cap1, rfl⟩ := okWide_slice Yba.underlying22 (hval 1 22 v1 rfl rfl)
  have k1 := h1
  have lt1 : ∀ x ∈ p1, x.block < W.heap.size := by obtain ⟨m, hm⟩ := k1; exact DataW.trod_lt m _ _ _ hm
  obtain ⟨z1, w1⟩ : ∃ zs, IsRow .i16 W a1 len1 cap1 zs := by
    obtain ⟨fuel, hf⟩ := h1
    rcases open_ints Yba.underlying22 Yba.underlying26 (by kernel_rfl) hf with ⟨hcs, _⟩ | ⟨x, l, c, zs, hcs, _, hl, hm, hz, _, hcell, hwz⟩
    · simp [Value.cells] at hcs
      obtain ⟨rfl, rfl, rfl⟩ := hcs
      exact ⟨[], .inl ⟨rfl, rfl, rfl, rfl⟩⟩
    · simp [Value.cells] at hcs
      obtain ⟨rfl, rfl, rfl⟩ := hcs
      exact ⟨zs, .inr ⟨_, rfl, hl, hm, by simpa using hz, hcell, hwz⟩⟩
  obtain ⟨a2, len2, cap2, rfl⟩ := okWide_slice Yba.underlying22 (hval 2 22 v2 rfl rfl)
  have k2 := h2
  have lt2 : ∀ x ∈ p2, x.block < W.heap.size := by obtain ⟨m, hm⟩ := k2; exact DataW.trod_lt m _ _ _ hm
  obtain ⟨z2, w2⟩ : ∃ zs, IsRow .i16 W a2 len2 cap2 zs := by
    obtain ⟨fuel, hf⟩ := h2
    rcases open_ints Yba.underlying22 Yba.underlying26 (by kernel_rfl) hf with ⟨hcs, _⟩ | ⟨x, l, c, zs, hcs, _, hl, hm, hz, _, hcell, hwz⟩
    · simp [Value.cells] at hcs
      obtain ⟨rfl, rfl, rfl⟩ := hcs
      exact ⟨[], .inl ⟨rfl, rfl, rfl, rfl⟩⟩
    · simp [Value.cells] at hcs
      obtain ⟨rfl, rfl, rfl⟩ := hcs
      exact ⟨zs, .inr ⟨_, rfl, hl, hm, by simpa using hz, hcell, hwz⟩⟩
  obtain ⟨a3, rfl, rfl, rfl, w3⟩ := open_int Yba.underlying5 (hval 3 5 v3 rfl rfl) h3
  obtain ⟨a4, rfl, rfl, rfl, w4⟩ := open_int Yba.underlying23 (hval 4 23 v4 rfl rfl) h4
  obtain ⟨a5, rfl, rfl, rfl, w5⟩ := open_int Yba.underlying23 (hval 5 23 v5 rfl rfl) h5
  clear hA0 hval0
  refine (walk a0 a1 len1 cap1 z1 a2 len2 cap2 z2 a3 a4 a5 W w0 w1 w2 w3 w4 w5).mono fun e W' ⟨he, bel⟩ => ?_
  subst he
  exact ⟨_, rfl, _, _, _, [], _, [], hW', trodAll_mk1 (shut_bool Yba.underlying4 _), (trodAll_cons_mk (shut_int Yba.underlying5 w0) (trodAll_cons_mk (Below.trod laidOut (by kernel_rfl) (of_decide_eq_true (by kernel_rfl)) k1 bel lt1) (trodAll_cons_mk (Below.trod laidOut (by kernel_rfl) (of_decide_eq_true (by kernel_rfl)) k2 bel lt2) (trodAll_cons_mk (shut_int Yba.underlying5 w3) (trodAll_cons_mk (shut_int Yba.underlying23 w4) (trodAll_cons_mk (shut_int Yba.underlying23 w5) trodAll_mk0)))))), rfl, bel.frame _, fun h => by cases h⟩

theorem over : Rows.lawS3696ARunRow.holds Yba.pinned (OpenSpec.ofChange Rows.lawS3696ARunSpec) :=
  OpenClaim.holds_of_wide 3 Yba.f3 rfl rfl rfl rfl rfl rfl rfl ⟨rfl, rfl, rfl, rfl, rfl⟩ rfl rfl rfl rfl rfl (by kernel_rfl) Yba.func3 (by kernel_rfl)
    (of_decide_eq_true (by kernel_rfl)) (by unfold Func.isWrapper; first | (rw [if_pos (by decide +kernel)]; kernel_rfl) | (rw [if_neg (by decide +kernel)]; exact ⟨rfl, rfl⟩))
    (fun os started H enc _ => lifted os started H enc)

/-- ████ THE STATEMENT ████ -/
theorem proved : Rows.LawS3696ARunSaid := over
end Go.Proofs.Ybulkbxne.lawS3696ARun
