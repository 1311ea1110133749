/- LawS3696ARun: stepElementRun. -/
import Derived.Test.YbulkbxneRunD
import Derived.Test.YbulkbxneRunE
import Derived.Deep.RegionHeld3
namespace Go.Proofs.Ybulkbxne
open Go.RowKit Go.Proofs.WholeFloat Go.Proofs.Own
set_option maxRecDepth 100000
set_option maxHeartbeats 1600000
set_option linter.unusedVariables false
set_option linter.unusedSimpArgs false

theorem Yba.nilAhead32 (a : Addr) (w : World) : (nilAhead 224 31 (.pointer (some a)) ("exam" ++ "ple.com".push '/' ++ "gradloom".push '/' ++ "gradloom.step32")).run Yba.prog w = .ok (some false) w := by kernel_rfl
theorem Yba.method32 (a : Addr) (w : World) : (method 224 31 (.pointer (some a)) ("exam" ++ "ple.com".push '/' ++ "gradloom".push '/' ++ "gradloom.step32")).run Yba.prog w = .ok (59, .pointer (some a)) w := by kernel_rfl
theorem Yba.nilAhead64 (a : Addr) (w : World) : (nilAhead 224 31 (.pointer (some a)) ("exam" ++ "ple.com".push '/' ++ "gradloom".push '/' ++ "gradloom.step64")).run Yba.prog w = .ok (some false) w := by kernel_rfl
theorem Yba.method64 (a : Addr) (w : World) : (method 224 31 (.pointer (some a)) ("exam" ++ "ple.com".push '/' ++ "gradloom".push '/' ++ "gradloom.step64")).run Yba.prog w = .ok (60, .pointer (some a)) w := by kernel_rfl

/-- how often the rule's two methods were called -/
def call32 : FloatKind → Int
  | .f32 => 1
  | .f64 => 0
def call64 : FloatKind → Int
  | .f32 => 0
  | .f64 => 1

/-- what stepElementRun leaves -/
def Stepped (k : FloatKind) (q yr K n lo hi : Nat) (rs : Nat → Nat) (yv pv gv : Nat → Int) (sv : Nat → Nat → Int) (w w' : World) : Prop :=
  ∃ (vp vg : Value) (sB : Nat) (vs : Nat → Value), w'.heap[q]? = some (.cells (ruleC (call32 k) (call64 k) vp vg (.slice (some ⟨sB, 0, none⟩) K K)) 33 (0, 0)) ∧ RowAt w' 25 vp (fls pv lo (hi - lo)) ∧ RowAt w' 25 vg (fls gv lo (hi - lo)) ∧
    w'.rowIs sB 24 K vs ∧ (∀ j, j < K → RowAt w' 25 (vs j) (fls (sv j) lo (hi - lo))) ∧
    FR w' k yr n (fun i => if lo ≤ i ∧ i < hi then pv i - gv i else yv i) ∧ (∀ j, j < K → FR w' k (rs j) n (fun i => if lo ≤ i ∧ i < hi then sv j i + 1 else sv j i)) ∧
    Kept (fun b => b = q ∨ b = yr ∨ ∃ j, j < K ∧ b = rs j) w w'

theorem run6_f32 (q sb ym vm gm yr pr gr K n lo hi : Nat) (ms rs : Nat → Nat) (yv pv gv : Nat → Int) (sv : Nat → Nat → Int) (w : World) (hn : n ≤ 1024) (hK : K ≤ 2) (hlo : lo ≤ hi) (hhi : hi ≤ n)
    (hq : w.heap[q]? = some (.cells (ruleC 0 0 (.slice none 0 0) (.slice none 0 0) (.slice none 0 0)) 33 (0, 0)))
    (hym : w.heap[ym]? = some (.cells (matR .f32 n yr) 58 (0, 0))) (hvm : w.heap[vm]? = some (.cells (matR .f32 n pr) 58 (0, 0))) (hgm : w.heap[gm]? = some (.cells (matR .f32 n gr) 58 (0, 0)))
    (hsb : w.rowIs sb 28 K (fun j => .pointer (some ⟨ms j, 0, none⟩))) (hms : ∀ j, j < K → w.heap[ms j]? = some (.cells (matR .f32 n (rs j)) 58 (0, 0)))
    (hy : FR w .f32 yr n yv) (hp : FR w .f32 pr n pv) (hg : FR w .f32 gr n gv) (hs : ∀ j, j < K → FR w .f32 (rs j) n (sv j))
    (hps : ∀ i, Small (pv i)) (hgs : ∀ i, Small (gv i)) (hds : ∀ i, Small (pv i - gv i)) (hss : ∀ j i, Small (sv j i)) (hss1 : ∀ j i, Small (sv j i + 1))
    (d1 : yr ≠ pr) (d2 : yr ≠ gr) (d3 : ∀ j, j < K → rs j ≠ yr ∧ rs j ≠ pr ∧ rs j ≠ gr) (d4 : ∀ i j, i < K → j < K → i ≠ j → rs i ≠ rs j) :
    Calls Yba.prog 6 #[.pointer (some ⟨ym, 0, none⟩), .pointer (some ⟨vm, 0, none⟩), .pointer (some ⟨gm, 0, none⟩), .slice (some ⟨sb, 0, none⟩) K K, .iface 31 (.pointer (some ⟨q, 0, none⟩)), .int .i64 lo, .int .i64 hi] w fun e w' => e = .returned (.tuple #[]) ∧
      Stepped .f32 q yr K n lo hi rs yv pv gv sv w w' := by
  have y2 : w.cell? ⟨ym, 2, none⟩ = some (.int .u8 1) := by rw [cell_of_blk hym]; rfl
  have y3 : w.cell? ⟨ym, 3, none⟩ = some (.slice (some ⟨yr, 0, none⟩) n n) := by rw [cell_of_blk hym]; rfl
  have v3 : w.cell? ⟨vm, 3, none⟩ = some (.slice (some ⟨pr, 0, none⟩) n n) := by rw [cell_of_blk hvm]; rfl
  have g3 : w.cell? ⟨gm, 3, none⟩ = some (.slice (some ⟨gr, 0, none⟩) n n) := by rw [cell_of_blk hgm]; rfl
  have ymS : ym < w.heap.size := (Array.getElem?_eq_some_iff.1 hym).1
  have vmS : vm < w.heap.size := (Array.getElem?_eq_some_iff.1 hvm).1
  have gmS : gm < w.heap.size := (Array.getElem?_eq_some_iff.1 hgm).1
  have l1 : (lo : Int) ≤ (hi : Int) := by omega
  have l2 : (hi : Int) ≤ (n : Int) := by omega
  have hA : ∀ w1 yp pp gp, (lo < hi → yp = some ⟨yr, lo, none⟩) → (lo < hi → pp = some ⟨pr, lo, none⟩) → (lo < hi → gp = some ⟨gr, lo, none⟩) → Below w.heap.size w w1 → w1.rowIs w.heap.size 56 K (fun j => subS n lo hi (rs j)) →
      Calls Yba.prog 59 #[.pointer (some ⟨q, 0, none⟩), .slice yp (hi - lo) (n - lo), .slice pp (hi - lo) (n - lo), .slice gp (hi - lo) (n - lo), .slice (some ⟨w.heap.size, 0, none⟩) K K] w1 fun e w' => e = .returned (.tuple #[]) ∧
        Stepped .f32 q yr K n lo hi rs yv pv gv sv w w' := by
    intro w1 yp pp gp e1 e2 e3 hb ht
    have hql : q < w.heap.size := (Array.getElem?_eq_some_iff.1 hq).1
    refine (step59 q yr pr gr w.heap.size K n lo hi _ _ _ (fun j => if n = lo then some ⟨rs j, 0, none⟩ else some ⟨rs j, lo, none⟩) (n - lo) rs yv pv gv sv w1 hn hK hlo hhi ((hb.block q hql).trans hq) (hy.below hb hy.lt) (hp.below hb hp.lt) (hg.below hb hg.lt) ht (fun j hj => (hs j hj).below hb (hs j hj).lt)
      e1 e2 e3 (fun h j hj => if_neg (by omega)) hps hgs hds hss hss1 d1 d2 d3 d4).mono ?_
    rintro e w' ⟨rfl, vp, vg, sB, vs, s1, s2, s3, s4, s5, s6, s7, s8⟩
    exact ⟨rfl, ⟨vp, vg, sB, vs, s1, s2, s3, s4, s5, s6, s7, (Kept.ofBelow hb).trans s8 (fun _ _ h => h)⟩⟩
  have hB : ∀ w', Stepped .f32 q yr K n lo hi rs yv pv gv sv w w' → w'.cell? ⟨ym, 3, none⟩ = some (.slice (some ⟨yr, 0, none⟩) n n) ∧ w'.cell? ⟨vm, 3, none⟩ = some (.slice (some ⟨pr, 0, none⟩) n n) ∧ w'.cell? ⟨gm, 3, none⟩ = some (.slice (some ⟨gr, 0, none⟩) n n) := by
    rintro w' ⟨_, _, _, _, _, _, _, _, _, _, _, s8⟩
    have out : ∀ x r, w.heap[x]? = some (.cells (matR .f32 n r) 58 (0, 0)) → ¬ (x = q ∨ x = yr ∨ ∃ j, j < K ∧ x = rs j) := by
      intro x r hx
      rintro (e | e | ⟨j, hj, e⟩)
      · rw [e, hq] at hx; simp at hx
      · obtain ⟨c, hc, _⟩ := hy
        rw [e, hc] at hx; simp at hx; exact absurd hx.2 (by decide)
      · obtain ⟨c, hc, _⟩ := hs j hj
        rw [e, hc] at hx; simp at hx; exact absurd hx.2 (by decide)
    exact ⟨(World.cell?_of_block (w := w) (s8.block ym ymS (out ym yr hym))).trans y3, (World.cell?_of_block (w := w) (s8.block vm vmS (out vm pr hvm))).trans v3, (World.cell?_of_block (w := w) (s8.block gm gmS (out gm gr hgm))).trans g3⟩
  have hnil := Yba.nilAhead32
  have hmet := Yba.method32
  dsimp at hnil hmet
  by_cases hnl : n = lo
  · obtain rfl : hi = n := by omega
    subst hnl
    simp only [Nat.sub_self] at hA
    have k1 : hi < hi → (some ⟨yr, 0, none⟩ : Option Addr) = some ⟨yr, hi, none⟩ := fun h => absurd h (by omega)
    have k2 : hi < hi → (some ⟨pr, 0, none⟩ : Option Addr) = some ⟨pr, hi, none⟩ := fun h => absurd h (by omega)
    have k3 : hi < hi → (some ⟨gr, 0, none⟩ : Option Addr) = some ⟨gr, hi, none⟩ := fun h => absurd h (by omega)
    go_enter Yba.func6, Yba.ntmps6
    go_wp2
    go_region_held3 (fun w' => w'.cell? ⟨ym, 3, none⟩ = some (.slice (some ⟨yr, 0, none⟩) hi hi) ∧ w'.cell? ⟨vm, 3, none⟩ = some (.slice (some ⟨pr, 0, none⟩) hi hi) ∧ w'.cell? ⟨gm, 3, none⟩ = some (.slice (some ⟨gr, 0, none⟩) hi hi)) (go_keep)
      (first
        | (go_at_call 15; refine (state15 sb K hi hi hi ms rs w.drew hn hK hlo hhi hsb hms).mono ?_; rintro e w1 ⟨rfl, ht, hb0⟩; have hb : Below w.heap.size w w1 := ⟨hb0.os, hb0.tape, hb0.output, hb0.size, hb0.block⟩; clear hb0; have y3' := (hb.cell (p := ⟨ym, 3, none⟩) ymS).trans y3; have v3' := (hb.cell (p := ⟨vm, 3, none⟩) vmS).trans v3; have g3' := (hb.cell (p := ⟨gm, 3, none⟩) gmS).trans g3)
        | (go_at_call 59; refine (hA w1 _ _ _ k1 k2 k3 hb ht).mono ?_; rintro e w2 ⟨rfl, hst⟩; have hs3 := hB w2 hst))
    all_goals
      clear hA hB
      go_wp2
      go_end0
      exact ⟨rfl, hst⟩
  · go_enter Yba.func6, Yba.ntmps6
    go_wp2
    go_region_held3 (fun w' => w'.cell? ⟨ym, 3, none⟩ = some (.slice (some ⟨yr, 0, none⟩) n n) ∧ w'.cell? ⟨vm, 3, none⟩ = some (.slice (some ⟨pr, 0, none⟩) n n) ∧ w'.cell? ⟨gm, 3, none⟩ = some (.slice (some ⟨gr, 0, none⟩) n n)) (go_keep)
      (first
        | (go_at_call 15; refine (state15 sb K n lo hi ms rs w.drew hn hK hlo hhi hsb hms).mono ?_; rintro e w1 ⟨rfl, ht, hb0⟩; have hb : Below w.heap.size w w1 := ⟨hb0.os, hb0.tape, hb0.output, hb0.size, hb0.block⟩; clear hb0; have y3' := (hb.cell (p := ⟨ym, 3, none⟩) ymS).trans y3; have v3' := (hb.cell (p := ⟨vm, 3, none⟩) vmS).trans v3; have g3' := (hb.cell (p := ⟨gm, 3, none⟩) gmS).trans g3)
        | (go_at_call 59; refine (hA w1 _ _ _ (fun _ => rfl) (fun _ => rfl) (fun _ => rfl) hb ht).mono ?_; rintro e w2 ⟨rfl, hst⟩; have hs3 := hB w2 hst))
    all_goals
      clear hA hB
      go_wp2
      go_end0
      exact ⟨rfl, hst⟩

theorem run6_f64 (q sb ym vm gm yr pr gr K n lo hi : Nat) (ms rs : Nat → Nat) (yv pv gv : Nat → Int) (sv : Nat → Nat → Int) (w : World) (hn : n ≤ 1024) (hK : K ≤ 2) (hlo : lo ≤ hi) (hhi : hi ≤ n)
    (hq : w.heap[q]? = some (.cells (ruleC 0 0 (.slice none 0 0) (.slice none 0 0) (.slice none 0 0)) 33 (0, 0)))
    (hym : w.heap[ym]? = some (.cells (matR .f64 n yr) 58 (0, 0))) (hvm : w.heap[vm]? = some (.cells (matR .f64 n pr) 58 (0, 0))) (hgm : w.heap[gm]? = some (.cells (matR .f64 n gr) 58 (0, 0)))
    (hsb : w.rowIs sb 28 K (fun j => .pointer (some ⟨ms j, 0, none⟩))) (hms : ∀ j, j < K → w.heap[ms j]? = some (.cells (matR .f64 n (rs j)) 58 (0, 0)))
    (hy : FR w .f64 yr n yv) (hp : FR w .f64 pr n pv) (hg : FR w .f64 gr n gv) (hs : ∀ j, j < K → FR w .f64 (rs j) n (sv j))
    (hps : ∀ i, Small (pv i)) (hgs : ∀ i, Small (gv i)) (hds : ∀ i, Small (pv i - gv i)) (hss : ∀ j i, Small (sv j i)) (hss1 : ∀ j i, Small (sv j i + 1))
    (d1 : yr ≠ pr) (d2 : yr ≠ gr) (d3 : ∀ j, j < K → rs j ≠ yr ∧ rs j ≠ pr ∧ rs j ≠ gr) (d4 : ∀ i j, i < K → j < K → i ≠ j → rs i ≠ rs j) :
    Calls Yba.prog 6 #[.pointer (some ⟨ym, 0, none⟩), .pointer (some ⟨vm, 0, none⟩), .pointer (some ⟨gm, 0, none⟩), .slice (some ⟨sb, 0, none⟩) K K, .iface 31 (.pointer (some ⟨q, 0, none⟩)), .int .i64 lo, .int .i64 hi] w fun e w' => e = .returned (.tuple #[]) ∧
      Stepped .f64 q yr K n lo hi rs yv pv gv sv w w' := by
  have y2 : w.cell? ⟨ym, 2, none⟩ = some (.int .u8 2) := by rw [cell_of_blk hym]; rfl
  have y3 : w.cell? ⟨ym, 4, none⟩ = some (.slice (some ⟨yr, 0, none⟩) n n) := by rw [cell_of_blk hym]; rfl
  have v3 : w.cell? ⟨vm, 4, none⟩ = some (.slice (some ⟨pr, 0, none⟩) n n) := by rw [cell_of_blk hvm]; rfl
  have g3 : w.cell? ⟨gm, 4, none⟩ = some (.slice (some ⟨gr, 0, none⟩) n n) := by rw [cell_of_blk hgm]; rfl
  have ymS : ym < w.heap.size := (Array.getElem?_eq_some_iff.1 hym).1
  have vmS : vm < w.heap.size := (Array.getElem?_eq_some_iff.1 hvm).1
  have gmS : gm < w.heap.size := (Array.getElem?_eq_some_iff.1 hgm).1
  have l1 : (lo : Int) ≤ (hi : Int) := by omega
  have l2 : (hi : Int) ≤ (n : Int) := by omega
  have hA : ∀ w1 yp pp gp, (lo < hi → yp = some ⟨yr, lo, none⟩) → (lo < hi → pp = some ⟨pr, lo, none⟩) → (lo < hi → gp = some ⟨gr, lo, none⟩) → Below w.heap.size w w1 → w1.rowIs w.heap.size 24 K (fun j => subS n lo hi (rs j)) →
      Calls Yba.prog 60 #[.pointer (some ⟨q, 0, none⟩), .slice yp (hi - lo) (n - lo), .slice pp (hi - lo) (n - lo), .slice gp (hi - lo) (n - lo), .slice (some ⟨w.heap.size, 0, none⟩) K K] w1 fun e w' => e = .returned (.tuple #[]) ∧
        Stepped .f64 q yr K n lo hi rs yv pv gv sv w w' := by
    intro w1 yp pp gp e1 e2 e3 hb ht
    have hql : q < w.heap.size := (Array.getElem?_eq_some_iff.1 hq).1
    refine (step60 q yr pr gr w.heap.size K n lo hi _ _ _ (fun j => if n = lo then some ⟨rs j, 0, none⟩ else some ⟨rs j, lo, none⟩) (n - lo) rs yv pv gv sv w1 hn hK hlo hhi ((hb.block q hql).trans hq) (hy.below hb hy.lt) (hp.below hb hp.lt) (hg.below hb hg.lt) ht (fun j hj => (hs j hj).below hb (hs j hj).lt)
      e1 e2 e3 (fun h j hj => if_neg (by omega)) hps hgs hds hss hss1 d1 d2 d3 d4).mono ?_
    rintro e w' ⟨rfl, vp, vg, sB, vs, s1, s2, s3, s4, s5, s6, s7, s8⟩
    exact ⟨rfl, ⟨vp, vg, sB, vs, s1, s2, s3, s4, s5, s6, s7, (Kept.ofBelow hb).trans s8 (fun _ _ h => h)⟩⟩
  have hB : ∀ w', Stepped .f64 q yr K n lo hi rs yv pv gv sv w w' → w'.cell? ⟨ym, 4, none⟩ = some (.slice (some ⟨yr, 0, none⟩) n n) ∧ w'.cell? ⟨vm, 4, none⟩ = some (.slice (some ⟨pr, 0, none⟩) n n) ∧ w'.cell? ⟨gm, 4, none⟩ = some (.slice (some ⟨gr, 0, none⟩) n n) := by
    rintro w' ⟨_, _, _, _, _, _, _, _, _, _, _, s8⟩
    have out : ∀ x r, w.heap[x]? = some (.cells (matR .f64 n r) 58 (0, 0)) → ¬ (x = q ∨ x = yr ∨ ∃ j, j < K ∧ x = rs j) := by
      intro x r hx
      rintro (e | e | ⟨j, hj, e⟩)
      · rw [e, hq] at hx; simp at hx
      · obtain ⟨c, hc, _⟩ := hy
        rw [e, hc] at hx; simp at hx; exact absurd hx.2 (by decide)
      · obtain ⟨c, hc, _⟩ := hs j hj
        rw [e, hc] at hx; simp at hx; exact absurd hx.2 (by decide)
    exact ⟨(World.cell?_of_block (w := w) (s8.block ym ymS (out ym yr hym))).trans y3, (World.cell?_of_block (w := w) (s8.block vm vmS (out vm pr hvm))).trans v3, (World.cell?_of_block (w := w) (s8.block gm gmS (out gm gr hgm))).trans g3⟩
  have hnil := Yba.nilAhead64
  have hmet := Yba.method64
  dsimp at hnil hmet
  by_cases hnl : n = lo
  · obtain rfl : hi = n := by omega
    subst hnl
    simp only [Nat.sub_self] at hA
    have k1 : hi < hi → (some ⟨yr, 0, none⟩ : Option Addr) = some ⟨yr, hi, none⟩ := fun h => absurd h (by omega)
    have k2 : hi < hi → (some ⟨pr, 0, none⟩ : Option Addr) = some ⟨pr, hi, none⟩ := fun h => absurd h (by omega)
    have k3 : hi < hi → (some ⟨gr, 0, none⟩ : Option Addr) = some ⟨gr, hi, none⟩ := fun h => absurd h (by omega)
    go_enter Yba.func6, Yba.ntmps6
    go_wp2
    go_region_held3 (fun w' => w'.cell? ⟨ym, 4, none⟩ = some (.slice (some ⟨yr, 0, none⟩) hi hi) ∧ w'.cell? ⟨vm, 4, none⟩ = some (.slice (some ⟨pr, 0, none⟩) hi hi) ∧ w'.cell? ⟨gm, 4, none⟩ = some (.slice (some ⟨gr, 0, none⟩) hi hi)) (go_keep)
      (first
        | (go_at_call 16; refine (state16 sb K hi hi hi ms rs w.drew hn hK hlo hhi hsb hms).mono ?_; rintro e w1 ⟨rfl, ht, hb0⟩; have hb : Below w.heap.size w w1 := ⟨hb0.os, hb0.tape, hb0.output, hb0.size, hb0.block⟩; clear hb0; have y3' := (hb.cell (p := ⟨ym, 4, none⟩) ymS).trans y3; have v3' := (hb.cell (p := ⟨vm, 4, none⟩) vmS).trans v3; have g3' := (hb.cell (p := ⟨gm, 4, none⟩) gmS).trans g3)
        | (go_at_call 60; refine (hA w1 _ _ _ k1 k2 k3 hb ht).mono ?_; rintro e w2 ⟨rfl, hst⟩; have hs3 := hB w2 hst))
    all_goals
      clear hA hB
      go_wp2
      go_end0
      exact ⟨rfl, hst⟩
  · go_enter Yba.func6, Yba.ntmps6
    go_wp2
    go_region_held3 (fun w' => w'.cell? ⟨ym, 4, none⟩ = some (.slice (some ⟨yr, 0, none⟩) n n) ∧ w'.cell? ⟨vm, 4, none⟩ = some (.slice (some ⟨pr, 0, none⟩) n n) ∧ w'.cell? ⟨gm, 4, none⟩ = some (.slice (some ⟨gr, 0, none⟩) n n)) (go_keep)
      (first
        | (go_at_call 16; refine (state16 sb K n lo hi ms rs w.drew hn hK hlo hhi hsb hms).mono ?_; rintro e w1 ⟨rfl, ht, hb0⟩; have hb : Below w.heap.size w w1 := ⟨hb0.os, hb0.tape, hb0.output, hb0.size, hb0.block⟩; clear hb0; have y3' := (hb.cell (p := ⟨ym, 4, none⟩) ymS).trans y3; have v3' := (hb.cell (p := ⟨vm, 4, none⟩) vmS).trans v3; have g3' := (hb.cell (p := ⟨gm, 4, none⟩) gmS).trans g3)
        | (go_at_call 60; refine (hA w1 _ _ _ (fun _ => rfl) (fun _ => rfl) (fun _ => rfl) hb ht).mono ?_; rintro e w2 ⟨rfl, hst⟩; have hs3 := hB w2 hst))
    all_goals
      clear hA hB
      go_wp2
      go_end0
      exact ⟨rfl, hst⟩

end Go.Proofs.Ybulkbxne
