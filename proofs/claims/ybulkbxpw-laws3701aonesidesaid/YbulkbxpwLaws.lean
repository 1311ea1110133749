/- The laws LawS3701AOneSide and LawS3701APending: the walks. -/
import Derived.Test.YbulkbxpwWk
namespace Go.Proofs.Ybulkbxpw
open Go.RowKit
set_option maxRecDepth 100000
set_option maxHeartbeats 1600000
set_option linter.unusedVariables false
set_option linter.unusedSimpArgs false

/-- a Node literal: its cells, what they hold where the two maps lie, and what making and boxing it does -/
def NodeLit (C : Array Value) (r1 r2 : Option Nat) (parts : Array (Nat × Value)) : Prop :=
  C[11]? = some (.map r1) ∧ C[12]? = some (.map r2) ∧ (∀ w, (Instr.build 50 parts).run Yba.prog w = .ok (.agg C) w) ∧ ∀ w, (Instr.box 50 (.agg C)).run Yba.prog w = .ok (.pointer (some ⟨w.heap.size, 0, none⟩)) (w.alloc (.cells C 50))
theorem node_67 (r1 r2 : Option Nat) : ∃ C, NodeLit C r1 r2 #[(6, .map r1), (7, .map r2)] :=
  ⟨(((((Yba.prog.info? 50).bind (·.zero)).map Value.cells).getD #[]).setIfInBounds 11 (.map r1)).setIfInBounds 12 (.map r2), by kernel_rfl, by kernel_rfl, fun w => by kernel_rfl, fun w => by kernel_rfl⟩
theorem node_7 (r2 : Option Nat) : ∃ C, NodeLit C none r2 #[(7, .map r2)] :=
  ⟨(((((Yba.prog.info? 50).bind (·.zero)).map Value.cells).getD #[]).setIfInBounds 11 (.map none)).setIfInBounds 12 (.map r2), by kernel_rfl, by kernel_rfl, fun w => by kernel_rfl, fun w => by kernel_rfl⟩
theorem node_6 (r1 : Option Nat) : ∃ C, NodeLit C r1 none #[(6, .map r1)] :=
  ⟨(((((Yba.prog.info? 50).bind (·.zero)).map Value.cells).getD #[]).setIfInBounds 11 (.map r1)).setIfInBounds 12 (.map none), by kernel_rfl, by kernel_rfl, fun w => by kernel_rfl, fun w => by kernel_rfl⟩

theorem wpList_build {P : Program} (w : World) {ops : Array Oper} {rest : List Oper} {o : Oper} {a : Act} {Q : Exit → Act → World → Prop} (hgd : o.guard = none) (t : TypeId) (parts : Array (Nat × Operand)) (ho : o.op = .build t parts)
    (C : Array Value) (vals : Array (Nat × Value)) (hv : (parts.map fun (i, x) => (i, a.eval x)) = vals) (hrun : (Instr.build t vals).run P w = .ok (.agg C) w) (h : wpList P ops Q rest (a.put o.dst (.agg C)) w) : wpList P ops Q (o :: rest) a w := by
  refine wpList_plain hgd fun K hK => ?_
  unfold Oper.wp execOp
  simp only [ho, hv, Sem.run_bind, hrun, Result.andThen_ok, Sem.run_pure]
  exact hK _ _ h
theorem wpList_box {P : Program} (w : World) {ops : Array Oper} {rest : List Oper} {o : Oper} {a : Act} {Q : Exit → Act → World → Prop} (hgd : o.guard = none) (t : TypeId) (x : Operand) (ho : o.op = .box t x)
    (v r : Value) (w' : World) (hv : a.eval x = v) (hrun : (Instr.box t v).run P w = .ok r w') (h : wpList P ops Q rest (a.put o.dst r) w') : wpList P ops Q (o :: rest) a w := by
  refine wpList_plain hgd fun K hK => ?_
  unfold Oper.wp execOp
  simp only [ho, hv, Sem.run_bind, hrun, Result.andThen_ok, Sem.run_pure]
  exact hK _ _ h

theorem one_long (a : Option Addr) (n c : Nat) (on : Bool) (Q : Int) (w : World) (h : 1024 < n) :
    Calls Yba.prog 4 #[.slice a n c, .bool on, .int .u64 Q] w fun e w' => e = .returned (.bool true) ∧ Below w.heap.size w w' := by
  have h0 : (1024 : Int) < n := by omega
  go_enter Yba.func4, Yba.ntmps4
  go_wp2
  go_ret
  exact ⟨rfl, Below.refl _ _⟩

/-- what the node's block and its maps say, in the world wr -/
structure NodeIs (wr : World) (N : Nat) (r1 r2 : Option Nat) (K1 K2 : List Int) : Prop where
  d1 : wr.cell? ⟨N, 11, none⟩ = some (.map r1)
  d2 : wr.cell? ⟨N, 12, none⟩ = some (.map r2)
  h1 : MapHas wr r1 K1
  h2 : MapHas wr r2 K2

theorem NodeIs.below {w w' : World} {N : Nat} {r1 r2 : Option Nat} {K1 K2 : List Int} (h : NodeIs w N r1 r2 K1 K2) (hb : Below w.heap.size w w') : NodeIs w' N r1 r2 K1 K2 := by
  have hN : N < w.heap.size := World.block_lt_of_cell? w _ h.d1
  exact ⟨by rw [hb.cell (p := ⟨N, 11, none⟩) hN]; exact h.d1, by rw [hb.cell (p := ⟨N, 12, none⟩) hN]; exact h.d2, h.h1.kept fun m hm => hb.block m (h.h1.lt m hm), h.h2.kept fun m hm => hb.block m (h.h2.lt m hm)⟩

theorem one_short_true (a : Option Addr) (n c : Nat) (zs : Nat → Int) (Q : Int) (w : World) (hn : n ≤ 1024) (h : IntsAt w a n zs) :
    Calls Yba.prog 4 #[.slice a n c, .bool true, .int .u64 Q] w fun e w' => e = .returned (.bool true) ∧ Below w.heap.size w w' := by
  have h0 : (n : Int) ≤ 1024 := by omega
  go_enter Yba.func4, Yba.ntmps4
  go_wp2_with fail
  refine (amap5 a n c zs w hn h).mono ?_
  rintro e w1 ⟨rfl, ⟨K, hM, hK⟩, hB, hs⟩
  have HK : Hid (∀ y, y ∈ K ↔ ∃ i, i < n ∧ zs i = y) := hK
  have HS : Hid (w1.heap.size = w.heap.size + 1) := hs
  have HM : Hid (MapIs w1 w.heap.size K) := hM
  have hle := hB.size
  clear hK hs hM
  obtain ⟨C, C11, C12, hbu, hbo⟩ := node_7 (some w.heap.size)
  go_wp2_with (first | (refine wpList_build _ rfl 50 #[(7, .tmp 17)] rfl C #[(7, .map (some w.heap.size))] (by simp [Act.eval]) (hbu _) ?_) | (refine wpList_box _ rfl 50 (.tmp 18) rfl _ _ _ rfl (hbo _) ?_) | fail)
  go_loopw [25, 10] (fun i _ wr => ∃ k : Nat, k ≤ n ∧ i = .int .i64 k ∧ NodeIs wr w1.heap.size none (some w.heap.size) [] K ∧ Below w.heap.size w wr) (fun i _ _ => n - (intOf i).toNat)
  case atStart =>
    have bw : ∀ o, Below w1.heap.size w1 (w1.alloc o) := fun o => (Below.refl _ _).alloc (Nat.le_refl _) o
    refine ⟨0, Nat.zero_le _, rfl, ⟨by simp [C11], by simp [C12], .inl ⟨rfl, rfl⟩, .inr ⟨_, rfl, HM.out.kept ((bw _).block _ (by have := HM.out.lt; omega))⟩⟩, hB.alloc (by omega) _⟩
  case round =>
    obtain ⟨k, hk, rfl, hN, hBr⟩ := hrel
    by_cases hlt : k < n
    · obtain ⟨b, off, rfl, hblt, hc⟩ := h.below (B := 0) hBr k hlt
      have hlt' : (k : Int) < (n : Int) := by omega
      go_wp2_with fail
      refine (pending7 w1.heap.size none (some w.heap.size) [] K (zs k) wr hN.d1 hN.d2 hN.h1 hN.h2).mono ?_
      rintro e w2 ⟨rfl, hb2⟩
      have hin : zs k ∈ K := (HK.out _).2 ⟨k, hlt, rfl⟩
      have hd : (decide (zs k ∈ ([] : List Int)) || decide (zs k ∈ K)) = true := by simp [hin]
      rw [hd]
      have hN2 := hN.below hb2
      have hB2 := hBr.trans (hb2.mono hBr.size)
      clear hN hb2 hin hd hBr hc hblt
      go_wp2
      go_roundw
      case rel => exact ⟨k + 1, by omega, by go_num, hN2, hB2⟩
      case measure => simp [intOf]; omega
    · go_wp2_with fail
      refine (pending7 w1.heap.size none (some w.heap.size) [] K Q wr hN.d1 hN.d2 hN.h1 hN.h2).mono ?_
      rintro e w2 ⟨rfl, hb2⟩
      have hd : (decide (Q ∈ ([] : List Int)) || decide (Q ∈ K)) = has zs n Q := by
        rw [Bool.eq_iff_iff, has_iff]; simpa using HK.out Q
      rw [hd]
      have hB2 := hBr.trans (hb2.mono hBr.size)
      clear hd hN
      go_wp2_with fail
      refine (contains8 a n c zs Q w2 hn (h.below (B := 0) hB2)).mono ?_
      rintro e w3 ⟨rfl, hw⟩
      subst hw
      go_wp2
      go_ret
      exact ⟨by simp, hB2⟩

theorem one_short_false (a : Option Addr) (n c : Nat) (zs : Nat → Int) (Q : Int) (w : World) (hn : n ≤ 1024) (h : IntsAt w a n zs) :
    Calls Yba.prog 4 #[.slice a n c, .bool false, .int .u64 Q] w fun e w' => e = .returned (.bool true) ∧ Below w.heap.size w w' := by
  have h0 : (n : Int) ≤ 1024 := by omega
  go_enter Yba.func4, Yba.ntmps4
  go_wp2_with fail
  refine (amap5 a n c zs w hn h).mono ?_
  rintro e w1 ⟨rfl, ⟨K, hM, hK⟩, hB, hs⟩
  have HK : Hid (∀ y, y ∈ K ↔ ∃ i, i < n ∧ zs i = y) := hK
  have HS : Hid (w1.heap.size = w.heap.size + 1) := hs
  have HM : Hid (MapIs w1 w.heap.size K) := hM
  have hle := hB.size
  clear hK hs hM
  obtain ⟨C, C11, C12, hbu, hbo⟩ := node_6 (some w.heap.size)
  go_wp2_with (first | (refine wpList_build _ rfl 50 #[(6, .tmp 20)] rfl C #[(6, .map (some w.heap.size))] (by simp [Act.eval]) (hbu _) ?_) | (refine wpList_box _ rfl 50 (.tmp 21) rfl _ _ _ rfl (hbo _) ?_) | fail)
  go_loopw [25, 10] (fun i _ wr => ∃ k : Nat, k ≤ n ∧ i = .int .i64 k ∧ NodeIs wr w1.heap.size (some w.heap.size) none K [] ∧ Below w.heap.size w wr) (fun i _ _ => n - (intOf i).toNat)
  case atStart =>
    have bw : ∀ o, Below w1.heap.size w1 (w1.alloc o) := fun o => (Below.refl _ _).alloc (Nat.le_refl _) o
    refine ⟨0, Nat.zero_le _, rfl, ⟨by simp [C11], by simp [C12], .inr ⟨_, rfl, HM.out.kept ((bw _).block _ (by have := HM.out.lt; omega))⟩, .inl ⟨rfl, rfl⟩⟩, hB.alloc (by omega) _⟩
  case round =>
    obtain ⟨k, hk, rfl, hN, hBr⟩ := hrel
    by_cases hlt : k < n
    · obtain ⟨b, off, rfl, hblt, hc⟩ := h.below (B := 0) hBr k hlt
      have hlt' : (k : Int) < (n : Int) := by omega
      go_wp2_with fail
      refine (pending7 w1.heap.size (some w.heap.size) none K [] (zs k) wr hN.d1 hN.d2 hN.h1 hN.h2).mono ?_
      rintro e w2 ⟨rfl, hb2⟩
      have hin : zs k ∈ K := (HK.out _).2 ⟨k, hlt, rfl⟩
      have hd : (decide (zs k ∈ K) || decide (zs k ∈ ([] : List Int))) = true := by simp [hin]
      rw [hd]
      have hN2 := hN.below hb2
      have hB2 := hBr.trans (hb2.mono hBr.size)
      clear hN hb2 hin hd hBr hc hblt
      go_wp2
      go_roundw
      case rel => exact ⟨k + 1, by omega, by go_num, hN2, hB2⟩
      case measure => simp [intOf]; omega
    · go_wp2_with fail
      refine (pending7 w1.heap.size (some w.heap.size) none K [] Q wr hN.d1 hN.d2 hN.h1 hN.h2).mono ?_
      rintro e w2 ⟨rfl, hb2⟩
      have hd : (decide (Q ∈ K) || decide (Q ∈ ([] : List Int))) = has zs n Q := by
        rw [Bool.eq_iff_iff, has_iff]; simpa using HK.out Q
      rw [hd]
      have hB2 := hBr.trans (hb2.mono hBr.size)
      clear hd hN
      go_wp2_with fail
      refine (contains8 a n c zs Q w2 hn (h.below (B := 0) hB2)).mono ?_
      rintro e w3 ⟨rfl, hw⟩
      subst hw
      go_wp2
      go_ret
      exact ⟨by simp, hB2⟩

theorem pend_long (a1 : Option Addr) (n1 c1 : Nat) (a2 : Option Addr) (n2 c2 : Nat) (Q : Int) (w : World) (h : 1024 < n1 ∨ 1024 < n2) :
    Calls Yba.prog 3 #[.slice a1 n1 c1, .slice a2 n2 c2, .int .u64 Q] w fun e w' => e = .returned (.bool true) ∧ Below w.heap.size w w' := by
  by_cases h0 : (1024 : Int) < n1
  · go_enter Yba.func3, Yba.ntmps3
    go_wp2
    go_ret
    exact ⟨rfl, Below.refl _ _⟩
  · have h1 : (1024 : Int) < n2 := by omega
    go_enter Yba.func3, Yba.ntmps3
    go_wp2
    go_ret
    exact ⟨rfl, Below.refl _ _⟩

theorem len_map {w : World} {m : Nat} {es : Array MapEntry} {q : Nat} (h : w.heap[m]? = some (.map es q)) (ty : TypeId) : (Builtin.len_ #[24] ty #[.map (some m)]).run Yba.prog w = .ok (.int .i64 es.size) w := by
  simp [Builtin.len_, run_underlying Yba.underlying24, MapKept.run_getObj_map h, goInt]

/-- the node, and the very blocks of its two maps -/
structure Held (wr : World) (N m1 m2 : Nat) (K1 K2 : List Int) (o1 o2 : Obj) : Prop where
  node : NodeIs wr N (some m1) (some m2) K1 K2
  b1 : wr.heap[m1]? = some o1
  b2 : wr.heap[m2]? = some o2

theorem Held.below {w w' : World} {N m1 m2 : Nat} {K1 K2 : List Int} {o1 o2 : Obj} (h : Held w N m1 m2 K1 K2 o1 o2) (hb : Below w.heap.size w w') : Held w' N m1 m2 K1 K2 o1 o2 :=
  ⟨h.node.below hb, (hb.block _ (Array.getElem?_eq_some_iff.1 h.b1).1).trans h.b1, (hb.block _ (Array.getElem?_eq_some_iff.1 h.b2).1).trans h.b2⟩

theorem pend_short (a1 : Option Addr) (n1 c1 : Nat) (z1 : Nat → Int) (a2 : Option Addr) (n2 c2 : Nat) (z2 : Nat → Int) (Q : Int) (w : World) (hn1 : n1 ≤ 1024) (hn2 : n2 ≤ 1024) (i1 : IntsAt w a1 n1 z1) (i2 : IntsAt w a2 n2 z2) :
    Calls Yba.prog 3 #[.slice a1 n1 c1, .slice a2 n2 c2, .int .u64 Q] w fun e w' => e = .returned (.bool true) ∧ Below w.heap.size w w' := by
  have h01 : (n1 : Int) ≤ 1024 := by omega
  have h02 : (n2 : Int) ≤ 1024 := by omega
  go_enter Yba.func3, Yba.ntmps3
  go_wp2_with fail
  refine (amap5 a1 n1 c1 z1 w hn1 i1).mono ?_
  rintro e w1 ⟨rfl, ⟨K1, hM1, hK1⟩, hB1, hs1⟩
  have HK1 : Hid (∀ y, y ∈ K1 ↔ ∃ i, i < n1 ∧ z1 i = y) := hK1
  have HS1 : Hid (w1.heap.size = w.heap.size + 1) := hs1
  have HM1 : Hid (MapIs w1 w.heap.size K1) := hM1
  clear hK1 hs1 hM1
  go_wp2_with fail
  refine (amap5 a2 n2 c2 z2 w1 hn2 (i2.below (B := 0) hB1)).mono ?_
  rintro e w2 ⟨rfl, ⟨K2, hM2, hK2⟩, hB2, hs2⟩
  have HK2 : Hid (∀ y, y ∈ K2 ↔ ∃ i, i < n2 ∧ z2 i = y) := hK2
  have HS2 : Hid (w2.heap.size = w1.heap.size + 1) := hs2
  have HM2 : Hid (MapIs w2 w1.heap.size K2) := hM2
  have HM12 : Hid (MapIs w2 w.heap.size K1) := HM1.out.kept (hB2.block _ (by have := HS1.out; omega))
  have hB := hB1.trans (hB2.mono hB1.size)
  have hle := hB.size
  clear hK2 hs2 hM2 HM1 hB2 hB1
  obtain ⟨es1, q1, hb1, hk1, hv1⟩ := HM12.out
  obtain ⟨es2, q2, hb2, hk2, hv2⟩ := HM2.out
  clear hk1 hv1 hk2 hv2
  have hl1 := len_map hb1 3
  have hl2 := len_map hb2 3
  obtain ⟨C, C11, C12, hbu, hbo⟩ := node_67 (some w.heap.size) (some w1.heap.size)
  go_wp2_with (first | (refine wpList_build _ rfl 50 #[(6, .tmp 32), (7, .tmp 33)] rfl C #[(6, .map (some w.heap.size)), (7, .map (some w1.heap.size))] (by simp [Act.eval]) (hbu _) ?_) | (refine wpList_box _ rfl 50 (.tmp 34) rfl _ _ _ rfl (hbo _) ?_) | fail)
  have hst : ∀ W, W = w2.alloc (.cells C 50) → Held W w2.heap.size w.heap.size w1.heap.size K1 K2 (.map es1 q1) (.map es2 q2) := by
    rintro W rfl
    have bw : ∀ o, Below w2.heap.size w2 (w2.alloc o) := fun o => (Below.refl _ _).alloc (Nat.le_refl _) o
    have l1 := HM12.out.lt
    have l2 := HM2.out.lt
    exact ⟨⟨by simp [C11], by simp [C12], .inr ⟨_, rfl, HM12.out.kept ((bw _).block _ l1)⟩, .inr ⟨_, rfl, HM2.out.kept ((bw _).block _ l2)⟩⟩, ((bw _).block _ l1).trans hb1, ((bw _).block _ l2).trans hb2⟩
  have H0 := hst _ rfl
  have B0 : Below w.heap.size w (w2.alloc (.cells C 50)) := hB.alloc hle _
  clear hst hbu hbo C11 C12 hb1 hb2 hB hl1 hl2
  go_loopw [38, 13] (fun i _ wr => ∃ k : Nat, k ≤ n1 ∧ i = .int .i64 k ∧ Held wr w2.heap.size w.heap.size w1.heap.size K1 K2 (.map es1 q1) (.map es2 q2) ∧ Below w.heap.size w wr) (fun i _ _ => n1 - (intOf i).toNat)
  case atStart => exact ⟨0, Nat.zero_le _, rfl, H0, B0⟩
  case round =>
    clear H0 B0
    obtain ⟨k, hk, rfl, hH, hBr⟩ := hrel
    by_cases hlt : k < n1
    · have hlt' : (k : Int) < (n1 : Int) := by omega
      have j1 := i1.below (B := 0) hBr
      have j2 := i2.below (B := 0) hBr
      obtain ⟨b, off, e, hblt, hc⟩ := j1 k hlt
      cases e
      go_wp2_with fail
      refine (agree6 w2.heap.size (some w.heap.size) (some w1.heap.size) K1 K2 _ n1 c1 z1 a2 n2 c2 z2 (z1 k) wr hH.node.d1 hH.node.d2 hH.node.h1 hH.node.h2 hn1 hn2 j1 j2 HK1.out HK2.out).mono ?_
      rintro e w3 ⟨rfl, hb3⟩
      have hH3 := hH.below hb3
      have hB3 := hBr.trans (hb3.mono hBr.size)
      clear hH hb3 hBr hc hblt j1 j2
      go_wp2
      go_roundw
      case rel => exact ⟨k + 1, by omega, by go_num, hH3, hB3⟩
      case measure => simp [intOf]; omega
    · go_wp2
      go_loopw [51, 15] (fun i _ wr => ∃ k : Nat, k ≤ n2 ∧ i = .int .i64 k ∧ Held wr w2.heap.size w.heap.size w1.heap.size K1 K2 (.map es1 q1) (.map es2 q2) ∧ Below w.heap.size w wr) (fun i _ _ => n2 - (intOf i).toNat)
      case atStart => exact ⟨0, Nat.zero_le _, rfl, hH, hBr⟩
      case round =>
        clear hH hBr
        obtain ⟨k', hk', rfl, hH, hBr⟩ := hrel
        by_cases hlt2 : k' < n2
        · have hlt' : (k' : Int) < (n2 : Int) := by omega
          have j1 := i1.below (B := 0) hBr
          have j2 := i2.below (B := 0) hBr
          obtain ⟨b, off, e, hblt, hc⟩ := j2 k' hlt2
          cases e
          go_wp2_with fail
          refine (agree6 w2.heap.size (some w.heap.size) (some w1.heap.size) K1 K2 a1 n1 c1 z1 _ n2 c2 z2 (z2 k') _ hH.node.d1 hH.node.d2 hH.node.h1 hH.node.h2 hn1 hn2 j1 j2 HK1.out HK2.out).mono ?_
          rintro e w3 ⟨rfl, hb3⟩
          have hH3 := hH.below hb3
          have hB3 := hBr.trans (hb3.mono hBr.size)
          clear hH hb3 hBr hc hblt j1 j2
          go_wp2
          go_roundw
          case rel => exact ⟨k' + 1, by omega, by go_num, hH3, hB3⟩
          case measure => simp [intOf]; omega
        · go_wp2_with fail
          refine (agree6 w2.heap.size (some w.heap.size) (some w1.heap.size) K1 K2 a1 n1 c1 z1 a2 n2 c2 z2 Q _ hH.node.d1 hH.node.d2 hH.node.h1 hH.node.h2 hn1 hn2 (i1.below (B := 0) hBr) (i2.below (B := 0) hBr) HK1.out HK2.out).mono ?_
          rintro e w3 ⟨rfl, hb3⟩
          have hH3 := hH.below hb3
          have hB3 := hBr.trans (hb3.mono hBr.size)
          clear hH hb3 hBr
          go_wp2_with fail
          refine (agree6 w2.heap.size (some w.heap.size) (some w1.heap.size) K1 K2 a1 n1 c1 z1 a2 n2 c2 z2 _ w3 hH3.node.d1 hH3.node.d2 hH3.node.h1 hH3.node.h2 hn1 hn2 (i1.below (B := 0) hB3) (i2.below (B := 0) hB3) HK1.out HK2.out).mono ?_
          rintro e w4 ⟨rfl, hb4⟩
          have hH4 := hH3.below hb4
          have hB4 := hB3.trans (hb4.mono hB3.size)
          have d1 := hH4.node.d1
          have d2 := hH4.node.d2
          have g1 := len_map hH4.b1 3
          have g2 := len_map hH4.b2 3
          clear hH3 hb4 hB3
          go_wp2
          go_ret
          exact ⟨rfl, hB4⟩

end Go.Proofs.Ybulkbxpw
