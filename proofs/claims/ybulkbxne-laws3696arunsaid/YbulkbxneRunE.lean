/- LawS3696ARun: step64. -/
import Derived.Test.YbulkbxneRunC
namespace Go.Proofs.Ybulkbxne
open Go.RowKit Go.Proofs.WholeFloat Go.Proofs.Own
set_option maxRecDepth 100000
set_option maxHeartbeats 1600000
set_option linter.unusedVariables false
set_option linter.unusedSimpArgs false
attribute [local go_sem] run_store_float

theorem step60 (q yr pr gr tb K n lo hi : Nat) (yp pp gp : Option Addr) (sp : Nat → Option Addr) (C : Nat) (rs : Nat → Nat) (yv pv gv : Nat → Int) (sv : Nat → Nat → Int) (w : World) (hn : n ≤ 1024) (hK : K ≤ 2) (hlo : lo ≤ hi) (hhi : hi ≤ n)
    (hq : w.heap[q]? = some (.cells (ruleC 0 0 (.slice none 0 0) (.slice none 0 0) (.slice none 0 0)) 33 (0, 0)))
    (hy : FR w .f64 yr n yv) (hp : FR w .f64 pr n pv) (hg : FR w .f64 gr n gv) (ht : w.rowIs tb 24 K (fun j => .slice (sp j) (hi - lo) C)) (hs : ∀ j, j < K → FR w .f64 (rs j) n (sv j))
    (hyp : lo < hi → yp = some ⟨yr, lo, none⟩) (hpp : lo < hi → pp = some ⟨pr, lo, none⟩) (hgp : lo < hi → gp = some ⟨gr, lo, none⟩) (hsp : lo < hi → ∀ j, j < K → sp j = some ⟨rs j, lo, none⟩)
    (hps : ∀ i, Small (pv i)) (hgs : ∀ i, Small (gv i)) (hds : ∀ i, Small (pv i - gv i)) (hss : ∀ j i, Small (sv j i)) (hss1 : ∀ j i, Small (sv j i + 1))
    (d1 : yr ≠ pr) (d2 : yr ≠ gr) (d3 : ∀ j, j < K → rs j ≠ yr ∧ rs j ≠ pr ∧ rs j ≠ gr) (d4 : ∀ i j, i < K → j < K → i ≠ j → rs i ≠ rs j) :
    Calls Yba.prog 60 #[.pointer (some ⟨q, 0, none⟩), .slice yp (hi - lo) C, .slice pp (hi - lo) C, .slice gp (hi - lo) C, .slice (some ⟨tb, 0, none⟩) K K] w fun e w' => e = .returned (.tuple #[]) ∧
      ∃ (vp vg : Value) (sB : Nat) (vs : Nat → Value), w'.heap[q]? = some (.cells (ruleC 0 1 vp vg (.slice (some ⟨sB, 0, none⟩) K K)) 33 (0, 0)) ∧ RowAt w' 25 vp (fls pv lo (hi - lo)) ∧ RowAt w' 25 vg (fls gv lo (hi - lo)) ∧
        w'.rowIs sB 24 K vs ∧ (∀ j, j < K → RowAt w' 25 (vs j) (fls (sv j) lo (hi - lo))) ∧
        FR w' .f64 yr n (fun i => if lo ≤ i ∧ i < hi then pv i - gv i else yv i) ∧ (∀ j, j < K → FR w' .f64 (rs j) n (fun i => if lo ≤ i ∧ i < hi then sv j i + 1 else sv j i)) ∧
        Kept (fun b => b = q ∨ b = yr ∨ ∃ j, j < K ∧ b = rs j) w w' := by
  generalize hL : hi - lo = L at *
  have hq0 : w.cell? ⟨q, 1, none⟩ = some (.int .i64 0) := by rw [cell_of_blk hq]; rfl
  have hq1 := frozen_of_blk hq 1
  have hql : q < w.heap.size := (Array.getElem?_eq_some_iff.1 hq).1
  have hpl := hp.lt
  have hgl := hg.lt
  have hyl := hy.lt
  have htl := ht.lt
  have hpq : pr ≠ q := by
    rintro rfl
    obtain ⟨c, hc, _⟩ := hp
    rw [hc] at hq; simp at hq; exact absurd hq.2 (by decide)
  have hgq : gr ≠ q := by
    rintro rfl
    obtain ⟨c, hc, _⟩ := hg
    rw [hc] at hq; simp at hq; exact absurd hq.2 (by decide)
  have hyq : yr ≠ q := by
    rintro rfl
    obtain ⟨c, hc, _⟩ := hy
    rw [hc] at hq; simp at hq; exact absurd hq.2 (by decide)
  have htq : tb ≠ q := by
    rintro rfl
    obtain ⟨c, hc, _⟩ := ht
    rw [hc] at hq; simp at hq
  have hrl : ∀ i, i < K → rs i < w.heap.size := fun i hi => (hs i hi).lt
  have hrq : ∀ i, i < K → rs i ≠ q := fun i hi e => by
    obtain ⟨c, hc, _⟩ := hs i hi
    rw [e, hq] at hc; simp at hc; exact absurd hc.2 (by decide)
  have htr : ∀ i, i < K → tb ≠ rs i := fun i hi e => by
    obtain ⟨c, hc, _⟩ := hs i hi
    obtain ⟨c2, hc2, _⟩ := ht
    rw [← e, hc2] at hc; simp at hc; exact absurd hc.2 (by decide)
  go_enter Yba.func60, Yba.ntmps60
  go_wp2
  have A1 := blk_setCell_same w q 1 _ _ (.int .i64 1) hq
  have A2 : Kept (fun b => b = q) w (w.setCell ⟨q, 1, none⟩ (.int .i64 1)) := (Kept.refl (fun b => b = q) w).setCell (p := ⟨q, 1, none⟩) (.inl rfl) _
  generalize w.setCell ⟨q, 1, none⟩ (.int .i64 1) = W1 at A1 A2 ⊢
  go_loopw [25] (fun i wr => ∃ k : Nat, k ≤ L ∧ i = .int .i64 k ∧ ∃ vp, wr.heap[q]? = some (.cells (ruleC 0 1 vp (.slice none 0 0) (.slice none 0 0)) 33 (0, 0)) ∧ RowAt wr 25 vp (fls pv lo k) ∧ (∀ b, vp.ownBlock = some b → w.heap.size ≤ b) ∧ Kept (fun b => b = q) w wr) (fun i _ => L - (intOf i).toNat)
  case atStart => exact ⟨0, Nat.zero_le _, rfl, _, A1, RowAt.nil _ _, by simp [Value.ownBlock], A2⟩
  case round =>
    obtain ⟨k, hk, rfl, vp, f1, f2, f3, f4⟩ := hrel
    clear A1 A2 hq0 hq1
    by_cases hlt : k < L
    · have hlt' : (k : Int) < (L : Int) := by omega
      obtain rfl := hpp (by omega)
      obtain ⟨ap, np, cp, rfl⟩ := f2.isSlice
      have c1 : wr.cell? ⟨q, 2, none⟩ = some (.slice ap np cp) := by rw [cell_of_blk f1]; rfl
      have c2 := (hp.kept (f4.block pr hpl hpq)).cell (i := lo + k) (by omega)
      have hrow' : ∀ k' o, RowAt ((wr.alloc o).drewN k') 25 (.slice ap np cp) (fls pv lo k) := fun k' o => (f2.alloc o).drewN k'
      have hsrc := fun k' => src_flt wr (floatOfInt .f64 (pv (lo + k))) k'
      have hl1 := fls_len pv lo k
      have hne : ∀ b, (Value.slice ap np cp).ownBlock = some b → b ≠ q := fun b hb => by have := f3 b hb; omega
      have hqr : q < wr.heap.size := Nat.lt_of_lt_of_le hql f4.size
      go_wp2
      go_region_law (refine step_append_row rfl (.tmp 32) (.tmp 37) 24 24 rfl 25 (.float .f64 0) 8 Yba.underlying24 Yba.info25 rfl (.slice ap np cp) (fls pv lo k) (by simp [Act.eval, Act.put]) (by exact hrow' _ _) (.slice (some ⟨wr.heap.size, 0, none⟩) 1 1) (by simp [Act.eval, Act.put]) 1 [.float .f64 (floatOfInt .f64 (pv (lo + k)))] (by exact hsrc _) (by omega) (by omega) ?_; intro v' w' hr hg'; obtain ⟨a', n', c', rfl⟩ := hr.isSlice; have b1 := (grow_blk hg' hqr hne).trans f1; have b2 : w'.cell? ⟨q, 2, none⟩ = some (.slice ap np cp) := (cell_of_blk b1 2).trans rfl; have b3 := frozen_of_blk b1 2)
      all_goals
        rw [fls_succ] at hr
        obtain ⟨R1, R2, R3, R4⟩ := grown_field 2 hql f1 f3 f4 hr hg'
        generalize w'.setCell ⟨q, 2, none⟩ (.slice a' n' c') = W' at R1 R2 R4 ⊢
        clear hr hg' b1 b2 b3 f1 f2 f3 f4 c1 c2 hrow' hsrc hl1 hne hqr
        go_wp2
        go_roundw
        case rel => exact ⟨k + 1, by omega, by go_num, _, R1, R2, R3, R4⟩
        case measure => simp [intOf]; omega
    · have hkL : L = k := by omega
      subst hkL
      obtain ⟨W2, rfl⟩ : ∃ x, x = wr := ⟨_, rfl⟩
      clear hk hlt hq
      go_wp2
      go_loopw [44] (fun i wr => ∃ k : Nat, k ≤ L ∧ i = .int .i64 k ∧ ∃ vg, wr.heap[q]? = some (.cells (ruleC 0 1 vp vg (.slice none 0 0)) 33 (0, 0)) ∧ RowAt wr 25 vg (fls gv lo k) ∧ (∀ b, vg.ownBlock = some b → W2.heap.size ≤ b) ∧ Kept (fun b => b = q) W2 wr) (fun i _ => L - (intOf i).toNat)
      case atStart => exact ⟨0, Nat.zero_le _, rfl, _, f1, RowAt.nil _ _, by simp [Value.ownBlock], Kept.refl _ _⟩
      case round =>
        obtain ⟨k, hk, rfl, vg, e1, e2, e3, e4⟩ := hrel
        have hq2 : q < W2.heap.size := Nat.lt_of_lt_of_le hql f4.size
        by_cases hlt : k < L
        · have hlt' : (k : Int) < (L : Int) := by omega
          obtain rfl := hgp (by omega)
          obtain ⟨ap, np, cp, rfl⟩ := e2.isSlice
          have c1 : wr.cell? ⟨q, 3, none⟩ = some (.slice ap np cp) := by rw [cell_of_blk e1]; rfl
          have c2 := ((hg.kept (f4.block gr hgl hgq)).kept (e4.block gr (Nat.lt_of_lt_of_le hgl f4.size) hgq)).cell (i := lo + k) (by omega)
          skip
          have hrow' : ∀ k' o, RowAt ((wr.alloc o).drewN k') 25 (.slice ap np cp) (fls gv lo k) := fun k' o => (e2.alloc o).drewN k'
          have hsrc := fun k' => src_flt wr (floatOfInt .f64 (gv (lo + k))) k'
          have hl1 := fls_len gv lo k
          have hne : ∀ b, (Value.slice ap np cp).ownBlock = some b → b ≠ q := fun b hb => by have := e3 b hb; omega
          have hqr : q < wr.heap.size := Nat.lt_of_lt_of_le hq2 e4.size
          go_wp2
          go_region_law (refine step_append_row rfl (.tmp 51) (.tmp 56) 24 24 rfl 25 (.float .f64 0) 8 Yba.underlying24 Yba.info25 rfl (.slice ap np cp) (fls gv lo k) (by simp [Act.eval, Act.put]) (by exact hrow' _ _) (.slice (some ⟨wr.heap.size, 0, none⟩) 1 1) (by simp [Act.eval, Act.put]) 1 [.float .f64 (floatOfInt .f64 (gv (lo + k)))] (by exact hsrc _) (by omega) (by omega) ?_; intro v' w' hr hg'; obtain ⟨a', n', c', rfl⟩ := hr.isSlice; have b1 := (grow_blk hg' hqr hne).trans e1; have b2 : w'.cell? ⟨q, 3, none⟩ = some (.slice ap np cp) := (cell_of_blk b1 3).trans rfl; have b3 := frozen_of_blk b1 3)
          all_goals
            rw [fls_succ] at hr
            obtain ⟨R1, R2, R3, R4⟩ := grown_field 3 hq2 e1 e3 e4 hr hg'
            generalize w'.setCell ⟨q, 3, none⟩ (.slice a' n' c') = W' at R1 R2 R4 ⊢
            clear hr hg' b1 b2 b3 e1 e2 e3 e4 c1 c2 hrow' hsrc hl1 hne hqr
            go_wp2
            go_roundw
            case rel => exact ⟨k + 1, by omega, by go_num, _, R1, R2, R3, R4⟩
            case measure => simp [intOf]; omega
        · have hkL : L = k := by omega
          subst hkL
          obtain ⟨W3, rfl⟩ : ∃ x, x = wr := ⟨_, rfl⟩
          have P1 : RowAt W3 25 vp (fls pv lo L) := f2.kept fun b hb => e4.block b (f2.lt b hb) (by have := f3 b hb; omega)
          have P2 : Kept (fun b => b = q) w W3 := f4.trans e4 (fun _ _ h => h)
          have P3 : ∀ b, vp.ownBlock = some b → w.heap.size ≤ b ∧ b < W3.heap.size := fun b hb => ⟨f3 b hb, P1.lt b hb⟩
          have P4 : ∀ b, vg.ownBlock = some b → w.heap.size ≤ b ∧ b < W3.heap.size := fun b hb => ⟨Nat.le_trans f4.size (e3 b hb), e2.lt b hb⟩
          clear f1 f2 f3 f4 e3 e4 hk hlt
          have q4 : W3.cell? ⟨q, 4, none⟩ = some (.slice none 0 0) := by rw [cell_of_blk e1]; rfl
          have q5 := frozen_of_blk e1 4
          have hmk := run_make_row' (P := Yba.prog) 27 24 (.slice none 0 0) 24 Yba.underlying27 Yba.info24 rfl .i64 .i64 K (by omega) (by omega)
          have hq3 : q < W3.heap.size := Nat.lt_of_lt_of_le hql P2.size
          go_wp2
          obtain ⟨W4, hW4⟩ : ∃ x, x = (W3.setCell ⟨q, 4, none⟩ (.slice (some ⟨W3.heap.size, 0, none⟩) K K)).alloc (.cells (madeCells #[.slice none 0 0] K) 24) := ⟨_, rfl⟩
          rw [← hW4]
          have hsz : (W3.setCell ⟨q, 4, none⟩ (.slice (some ⟨W3.heap.size, 0, none⟩) K K)).heap.size = W3.heap.size := by simp [World.setCell]
          have Q1 : W4.heap[q]? = some (.cells (ruleC 0 1 vp vg (.slice (some ⟨W3.heap.size, 0, none⟩) K K)) 33 (0, 0)) := by
            rw [hW4, Go.Deep.blk_alloc_lt _ _ q (by omega), blk_setCell_same _ _ _ _ _ _ e1]; simp [ruleC]
          have Q2 : W4.rowIs W3.heap.size 24 K (fun _ => .slice none 0 0) := by
            have := World.rowIs_made (W3.setCell ⟨q, 4, none⟩ (.slice (some ⟨W3.heap.size, 0, none⟩) K K)) (.slice none 0 0) K 24
            rw [hsz] at this
            rw [hW4]; exact this
          have Q3 : Kept (fun b => b = q) w W4 := by
            rw [hW4]; exact (P2.setCell (p := ⟨q, 4, none⟩) (.inl rfl) _).alloc _
          have Q4 : RowAt W4 25 vp (fls pv lo L) := by
            rw [hW4]; exact (P1.setOther (a := ⟨q, 4, none⟩) (fun b hb => by have := P3 b hb; show b ≠ q; omega) _).alloc _
          have Q5 : RowAt W4 25 vg (fls gv lo L) := by
            rw [hW4]; exact (e2.setOther (a := ⟨q, 4, none⟩) (fun b hb => by have := P4 b hb; show b ≠ q; omega) _).alloc _
          have Q6 : W4.heap.size = W3.heap.size + 1 := by rw [hW4]; simp [hsz]
          have hw3 := P2.size
          clear hW4 P1 P2 e1 e2 q4 q5 hmk hq2 hsz
          generalize W3.heap.size = sB at P3 P4 Q1 Q2 Q6 hq3 hw3 ⊢
          have T4 := ht.of_block (Q3.block tb htl htq)
          have S4 : ∀ i, i < K → FR W4 .f64 (rs i) n (sv i) := fun i hi => (hs i hi).kept (Q3.block (rs i) (hrl i hi) (hrq i hi))
          have mk0 := make_empty L (by omega)
          go_loopw [69] (fun i wr => ∃ j : Nat, j ≤ K ∧ i = .int .i64 j ∧ ∃ vs : Nat → Value, wr.rowIs sB 24 K (fun i => if i < j then vs i else .slice none 0 0) ∧
            (∀ i, i < j → RowAt wr 25 (vs i) (fls (sv i) lo L) ∧ ∀ b, (vs i).ownBlock = some b → W4.heap.size ≤ b) ∧ (∀ i, i < K → FR wr .f64 (rs i) n (if i < j then incR (sv i) lo L else sv i)) ∧
            Kept (fun b => b = sB ∨ ∃ i, i < K ∧ b = rs i) W4 wr) (fun i _ => K - (intOf i).toNat)
          case atStart => exact ⟨0, Nat.zero_le _, rfl, fun _ => .slice none 0 0, Q2.congr (fun i hi => by simp), fun i hi => absurd hi (by omega), fun i hi => S4 i hi, Kept.refl _ _⟩
          case round =>
            obtain ⟨j, hj, rfl, vs, g1, g2, g3, g4⟩ := hrel
            obtain ⟨V, rfl⟩ : ∃ x, x = wr := ⟨_, rfl⟩
            have htB : tb < W4.heap.size := by omega
            have tbS : ¬ (tb = sB ∨ ∃ i, i < K ∧ tb = rs i) := by
              rintro (h | ⟨i, hi, h⟩)
              · omega
              · exact (htr i hi) h
            have qS : ¬ (q = sB ∨ ∃ i, i < K ∧ q = rs i) := by
              rintro (h | ⟨i, hi, h⟩)
              · omega
              · exact hrq i hi h.symm
            have hV := g4.size
            by_cases hlt : j < K
            · have hlt' : (j : Int) < (K : Int) := by omega
              have c1 := (T4.of_block (g4.block tb htB tbS)).cell hlt
              have htV : tb < V.heap.size := by omega
              have hqV : q < V.heap.size := by omega
              have hrV : rs j < V.heap.size := by have := hrl j hlt; omega
              have g3j : FR V .f64 (rs j) n (sv j) := by have := g3 j hlt; rwa [if_neg (by omega)] at this
              go_wp2
              have M1 := made_empty L (by omega) V
              have M2 : Kept (fun b => b = rs j) V (V.alloc (.cells (madeCells #[.float .f64 0] L) 25)) := (Kept.refl _ _).alloc _
              have M3 := g3j.alloc (.cells (madeCells #[.float .f64 0] L) 25)
              generalize V.alloc (.cells (madeCells #[.float .f64 0] L) 25) = V1 at M1 M2 M3 ⊢
              go_loopw [83, 13] (fun i v wr => ∃ k : Nat, k ≤ L ∧ i = .int .i64 k ∧ RowAt wr 25 v (fls (sv j) lo k) ∧ (∀ b, v.ownBlock = some b → V.heap.size ≤ b) ∧ FR wr .f64 (rs j) n (incR (sv j) lo k) ∧ Kept (fun b => b = rs j) V wr) (fun i _ _ => L - (intOf i).toNat)
              case atStart => exact ⟨0, Nat.zero_le _, rfl, M1, by simp [Value.ownBlock], M3.congr (fun x _ => incR_zero _ _ _), M2⟩
              case round =>
                obtain ⟨k, hk, rfl, k1, k2, k3, k4⟩ := hrel
                clear M1 M2 M3
                have tbj : tb ≠ rs j := htr j hlt
                have c1' : wr.cell? ⟨tb, j, none⟩ = some (.slice (sp j) L C) := by
                  rw [World.cell?_of_block (w := V) (k4.block tb htV tbj)]; exact c1
                by_cases hkl : k < L
                · have hkl' : (k : Int) < (L : Int) := by omega
                  rw [hsp (by omega) j hlt] at c1'
                  have c2 := k3.cell (i := lo + k) (by omega)
                  rw [incR_at] at c2
                  skip
                  have hrow' := k1.alloc (.cells #[.float .f64 (floatOfInt .f64 (sv j (lo + k)))] 25)
                  have hsrc := src_flt wr (floatOfInt .f64 (sv j (lo + k))) 0
                  have hl1 := fls_len (sv j) lo k
                  obtain ⟨ap, np, cp, rfl⟩ := k1.isSlice
                  go_wp2_with (at_builtin; go_must (refine wpList_append_row _ rfl _ _ 24 24 rfl 25 (.float .f64 0) 8 Yba.underlying24 Yba.info25 rfl _ _ rfl hrow' _ rfl 1 _ hsrc ?h1 ?h2 ?_))
                  case h1 => omega
                  case h2 => omega
                  intro v' w' hr hg'
                  rw [fls_succ] at hr
                  have hrw : rs j < wr.heap.size := Nat.lt_of_lt_of_le hrV k4.size
                  have htw : tb < wr.heap.size := Nat.lt_of_lt_of_le htV k4.size
                  have N1 : w'.cell? ⟨tb, j, none⟩ = some (.slice (some ⟨rs j, lo, none⟩) L C) :=
                    (World.cell?_of_block (w := wr) (grow_blk (n := 0) (x := tb) hg' htw (fun b hb => by have := k2 b hb; omega))).trans c1'
                  have N4 : FR w' .f64 (rs j) n (incR (sv j) lo k) := k3.kept (grow_blk (n := 0) hg' hrw (fun b hb => by have := k2 b hb; omega))
                  have N2 := N4.cell (i := lo + k) (by omega)
                  rw [incR_at] at N2
                  have N3 := N4.frozen (lo + k)
                  have N5 := (N4.set (lo + k) (sv j (lo + k) + 1)).congr (fun x _ => incR_succ (sv j) lo k x)
                  have N7 : ∀ b, v'.ownBlock = some b → V.heap.size ≤ b := grow_own (n := 0) k4.size hg' k2
                  have N6 := hr.setOther (a := ⟨rs j, lo + k, none⟩) (fun b hb => by have := N7 b hb; show b ≠ rs j; omega) (.float .f64 (floatOfInt .f64 (sv j (lo + k) + 1)))
                  have N8 := (k4.grow (n := 0) hg' k2).setCell (p := ⟨rs j, lo + k, none⟩) (.inl rfl) (.float .f64 (floatOfInt .f64 (sv j (lo + k) + 1)))
                  have ad := add_one .f64 25 (sv j (lo + k)) (hss j _) (hss1 j _)
                  rw [one64] at ad
                  clear hr hg' hrow' hsrc hl1 k1 k2 k3 k4 c1' c2 N4
                  go_wp2
                  go_roundw
                  case rel => exact ⟨k + 1, by omega, by go_num, N6, N7, N5, N8⟩
                  case measure => simp [intOf]; omega
                · have hkL : L = k := by omega
                  subst hkL
                  obtain ⟨V2, rfl⟩ : ∃ x, x = wr := ⟨_, rfl⟩
                  obtain ⟨ap, np, cp, rfl⟩ := k1.isSlice
                  have hBr : sB ≠ rs j := by have := hrl j hlt; omega
                  have hBV : sB < V.heap.size := by omega
                  have hq4 : W4.heap.size = sB + 1 := Q6
                  have q1 : V2.heap[q]? = _ := (k4.block q hqV (fun h => hrq j hlt h.symm)).trans ((g4.block q (by omega) qS).trans Q1)
                  have q2 : V2.cell? ⟨q, 4, none⟩ = some (.slice (some ⟨sB, 0, none⟩) K K) := by rw [cell_of_blk q1]; rfl
                  have b1 := g1.of_block (k4.block sB hBV hBr)
                  obtain ⟨x0, b2⟩ : ∃ x, V2.cell? ⟨sB, j, none⟩ = some x := ⟨_, b1.cell hlt⟩
                  have b3 := b1.frozen j
                  obtain ⟨vs', hvs⟩ : ∃ f : Nat → Value, f = fun i => if i = j then .slice ap np cp else vs i := ⟨_, rfl⟩
                  have hvj : vs' j = .slice ap np cp := by rw [hvs]; simp
                  have hvi : ∀ i, i ≠ j → vs' i = vs i := fun i hi => by rw [hvs]; simp [hi]
                  have G1 := rowIs_step (v := vs') (u := fun _ => .slice none 0 0) (i := j) (b1.congr (fun i hi => by
                    by_cases h : i < j
                    · simp [h, hvi i (by omega)]
                    · simp [h]))
                  rw [hvj] at G1
                  have G2 : ∀ i, i < j + 1 → RowAt (V2.setCell ⟨sB, j, none⟩ (.slice ap np cp)) 25 (vs' i) (fls (sv i) lo L) ∧ ∀ b, (vs' i).ownBlock = some b → W4.heap.size ≤ b := by
                    intro i hi
                    by_cases e : i = j
                    · subst e
                      rw [hvj]
                      exact ⟨k1.setOther (a := ⟨sB, i, none⟩) (fun b hb => by have := k2 b hb; show b ≠ sB; omega) _, fun b hb => by have := k2 b hb; omega⟩
                    · rw [hvi i e]
                      obtain ⟨r1, r2⟩ := g2 i (by omega)
                      have hh := hrl j hlt
                      exact ⟨(r1.kept fun b hb => k4.block b (r1.lt b hb) (by have := r2 b hb; omega)).setOther (a := ⟨sB, j, none⟩) (fun b hb => by have := r2 b hb; show b ≠ sB; omega) _, r2⟩
                  have G3 : ∀ i, i < K → FR (V2.setCell ⟨sB, j, none⟩ (.slice ap np cp)) .f64 (rs i) n (if i < j + 1 then incR (sv i) lo L else sv i) := by
                    intro i hi
                    have hh := hrl i hi
                    by_cases e : i = j
                    · subst e
                      rw [if_pos (by omega)]
                      exact k3.other (by show rs i ≠ sB; omega) _
                    · have := g3 i hi
                      have ee : (if i < j + 1 then incR (sv i) lo L else sv i) = (if i < j then incR (sv i) lo L else sv i) := by
                        by_cases h : i < j
                        · rw [if_pos h, if_pos (by omega)]
                        · rw [if_neg h, if_neg (by omega)]
                      rw [ee]
                      exact (this.kept (k4.block (rs i) this.lt (d4 i j hi hlt e))).other (by show rs i ≠ sB; omega) _
                  have G4 := (g4.trans k4 (fun x _ h => .inr ⟨j, hlt, h⟩)).setCell (p := ⟨sB, j, none⟩) (.inl (.inl rfl)) (.slice ap np cp)
                  clear k1 k2 k3 k4 g1 g2 g3 g4 c1 c1' b1 q1 g3j
                  go_wp2
                  go_roundw
                  case rel => exact ⟨j + 1, by omega, by go_num, vs', G1, G2, G3, G4⟩
                  case measure => simp [intOf]; omega
            · have hjK : K = j := by omega
              subst hjK
              have hh : W4.heap.size = sB + 1 := Q6
              have yS : ∀ x, x < w.heap.size → (∀ i, i < K → rs i ≠ x) → ¬ (x = sB ∨ ∃ i, i < K ∧ x = rs i) := fun x hx h => by
                rintro (e | ⟨i, hi, e⟩)
                · omega
                · exact h i hi e.symm
              have Z1 : V.heap[q]? = _ := (g4.block q (by omega) qS).trans Q1
              have Z2 := (hy.kept (Q3.block yr hyl hyq)).kept (g4.block yr (by omega) (yS yr hyl (fun i hi => (d3 i hi).1)))
              have Z3 := (hp.kept (Q3.block pr hpl hpq)).kept (g4.block pr (by omega) (yS pr hpl (fun i hi => (d3 i hi).2.1)))
              have Z4 := (hg.kept (Q3.block gr hgl hgq)).kept (g4.block gr (by omega) (yS gr hgl (fun i hi => (d3 i hi).2.2)))
              have Z5 : RowAt V 25 vp (fls pv lo L) := Q4.kept fun b hb => g4.block b (Q4.lt b hb) (by
                have := P3 b hb
                rintro (e | ⟨i, hi, e⟩)
                · omega
                · have := hrl i hi; omega)
              have Z6 : RowAt V 25 vg (fls gv lo L) := Q5.kept fun b hb => g4.block b (Q5.lt b hb) (by
                have := P4 b hb
                rintro (e | ⟨i, hi, e⟩)
                · omega
                · have := hrl i hi; omega)
              have hqV : q < V.heap.size := by omega
              clear Q1 Q2 Q4 Q5 T4 S4 mk0 ht hs hy hp hg
              go_wp2
              go_loopw [116] (fun i wr => ∃ k : Nat, k ≤ L ∧ i = .int .i64 k ∧ FR wr .f64 yr n (putR (fun x => pv x - gv x) yv lo k) ∧ Kept (fun b => b = yr) V wr) (fun i _ => L - (intOf i).toNat)
              case atStart => exact ⟨0, Nat.zero_le _, rfl, Z2.congr (fun x _ => putR_zero _ _ _ _), Kept.refl _ _⟩
              case round =>
                obtain ⟨k, hk, rfl, k1, k2⟩ := hrel
                by_cases hkl : k < L
                · have hkl' : (k : Int) < (L : Int) := by omega
                  obtain rfl := hyp (by omega)
                  obtain rfl := hpp (by omega)
                  obtain rfl := hgp (by omega)
                  have c1 := (Z3.kept (k2.block pr Z3.lt (fun e => d1 e.symm))).cell (i := lo + k) (by omega)
                  have c2 := (Z4.kept (k2.block gr Z4.lt (fun e => d2 e.symm))).cell (i := lo + k) (by omega)
                  obtain ⟨x0, c3⟩ := k1.some (i := lo + k) (by omega)
                  have c4 := k1.frozen (lo + k)
                  have sb := sub_two .f64 25 (pv (lo + k)) (gv (lo + k)) (hps _) (hgs _) (hds _)
                  have G1 := (k1.set (lo + k) (pv (lo + k) - gv (lo + k))).congr (fun x _ => putR_succ (fun x => pv x - gv x) yv lo k x)
                  have G2 := k2.setCell (p := ⟨yr, lo + k, none⟩) (.inl rfl) (.float .f64 (floatOfInt .f64 (pv (lo + k) - gv (lo + k))))
                  clear k1 k2 Z1 Z2 Z3 Z4 Z5 Z6 g1 g2 g3 g4
                  go_wp2
                  go_region
                  go_wp2
                  go_roundw
                  case rel => exact ⟨k + 1, by omega, by go_num, G1, G2.drew⟩
                  case measure => simp [intOf]; omega
                · have hkL : L = k := by omega
                  subst hkL
                  go_wp2
                  go_end0
                  have hh2 : ∀ x, (lo ≤ x ∧ x < lo + L) = (lo ≤ x ∧ x < hi) := fun x => by rw [show lo + L = hi by omega]
                  refine ⟨rfl, vp, vg, sB, vs, (k2.block q hqV (fun e => hyq e.symm)).trans Z1, Z5.kept fun b hb => k2.block b (Z5.lt b hb) ?_, Z6.kept fun b hb => k2.block b (Z6.lt b hb) ?_,
                    (g1.congr (fun i hi => by simp [hi])).of_block (k2.block sB (by omega) (by omega)), fun j hj => (g2 j hj).1.kept fun b hb => k2.block b ((g2 j hj).1.lt b hb) ?_, ?_, fun j hj => ?_, ?_⟩
                  · have := P3 b hb; omega
                  · have := P4 b hb; omega
                  · have := (g2 j hj).2 b hb; omega
                  · refine k1.congr (fun x _ => ?_)
                    unfold putR
                    simp only [hh2]
                  · have := g3 j hj
                    rw [if_pos hj] at this
                    refine (this.kept (k2.block (rs j) this.lt (d3 j hj).1)).congr (fun x _ => ?_)
                    unfold incR
                    simp only [hh2]
                  · refine ((Q3.mono (fun x _ h => .inl h)).trans g4 ?_).trans k2 (fun x _ h => .inr (.inl h))
                    rintro x hx (e | e)
                    · omega
                    · exact .inr (.inr e)

end Go.Proofs.Ybulkbxne
