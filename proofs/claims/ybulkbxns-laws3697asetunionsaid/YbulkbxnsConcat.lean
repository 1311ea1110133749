/- slices.Grow and slices.Concat at []string, as the law uses them. -/
import Derived.Test.YbulkbxnsMax
namespace Go.Proofs.Ybulkbxns
open Go.RowKit Go.Proofs.Own Go.Proofs.UnionMath
set_option maxRecDepth 100000
set_option maxHeartbeats 800000
set_option linter.unusedVariables false
set_option linter.unusedSimpArgs false

theorem run_append_zeros (n : Nat) (hn : 0 < n) (hn2 : n ≤ 8192) (ty : TypeId) (w : World) :
    ∃ cap cur, (Builtin.append_ #[22, 3] ty #[.slice none 0 0, .int .i64 (n : Int)]).run Yba.prog w = .ok (.slice (some ⟨w.heap.size, 0, none⟩) n cap) (w.drew.alloc (.cells cur 9)) ∧ n ≤ cap ∧ cap ≤ maxLen ∧ cur.size = cap := by
  obtain ⟨i, hi, hzz⟩ := Option.map_eq_some_iff.1 info9
  simp only [Prod.mk.injEq] at hzz
  obtain ⟨hz, hs, hb⟩ := hzz
  have hge := grownCap_ge w n 0 9
  have hcm : grownCap w n 0 9 ≤ maxLen := grownCap_le_maxLen w n 0 9 (by unfold maxLen; omega)
  refine ⟨grownCap w n 0 9, Builtin.zeroCells #[.string ⟨#[]⟩] n ++ Builtin.zeroCells #[.string ⟨#[]⟩] (grownCap w n 0 9 - n), ?_, hge, hcm, ?_⟩
  · have wl : IntKind.i64.wrap (n : Int) = n := by rw [IntKind.wrap_i64]; omega
    have n1 : ¬ ((n : Int) < 0) := by omega
    have n2 : ¬ (281474976710656 < (n : Int) * 16) := by omega
    have n3 : ¬ (n ≤ 0) := by omega
    have n4 : ¬ (9223372036854775807 < (n : Int)) := by omega
    have n5 : Builtin.nextslicecap n 0 = n := by simp [Builtin.nextslicecap]; omega
    have n6 : ¬ (281474976710656 < n * 16) := by omega
    have n7 : ¬ n = 0 := by omega
    simp [Builtin.append_, run_underlying Yba.underlying22, run_underlying Yba.underlying3, sizeOf, typeInfo, zeroValue, hi, hz, hs, hb, asInt, asIntOf, wl, n1, n2, n3, n4, n5, n6, n7, Question.forced, Builtin.firstCells, newRow, grownCap, Value.cells]
  · simp [size_zeroCells]; omega

theorem wpList_append_run {P : Program} (w : World) {ops : Array Oper} {rest : List Oper} {o : Oper} {a : Act} {Q : Exit → Act → World → Prop} (hgd : o.guard = none) (s x : Operand) (t tx : TypeId)
    (ho : o.op = .call { callee := .builtin .append, args := #[s, x], argTypes := #[t, tx] }) (v xv : Value) (hv : a.eval s = v) (hx : a.eval x = xv) (v' : Value) (w' : World)
    (hr : (Builtin.append_ #[t, tx] o.type #[v, xv]).run P w = .ok v' w') (h : wpList P ops Q rest (a.put o.dst v') w') : wpList P ops Q (o :: rest) a w := by
  refine wpList_plain hgd fun K hK => ?_
  unfold Oper.wp execOp
  simp only [ho, resolve, invoke, builtin, Sem.run_bind, Sem.run_pure, Result.andThen_ok, List.map_toArray, List.map_cons, List.map_nil, hv, hx, hr]
  exact hK _ _ h

theorem grow20_zero (w : World) : Calls Yba.prog 20 #[.slice none 0 0, .int .i64 0] w fun e w' => ∃ v', e = .returned v' ∧ RowAt w' 9 v' [] ∧ Below w.heap.size w w' ∧ (∀ k, v'.ownBlock = some k → w.heap.size ≤ k) := by
  go_enter Yba.func20, Yba.ntmps20
  go_wp2
  go_ret
  exact ⟨_, rfl, RowAt.nil _ _, Below.refl _ _, by simp [Value.ownBlock]⟩

theorem grow20_pos (n : Nat) (hn : 0 < n) (hn2 : n ≤ 8192) (w : World) : Calls Yba.prog 20 #[.slice none 0 0, .int .i64 (n : Int)] w fun e w' => ∃ v', e = .returned v' ∧ RowAt w' 9 v' [] ∧ Below w.heap.size w w' ∧ (∀ k, v'.ownBlock = some k → w.heap.size ≤ k) := by
  obtain ⟨cap, cur, hrun, h1, h2, h3⟩ := run_append_zeros n hn hn2 22 w
  have e1 : (0 : Int) < (n : Int) := by omega
  have e2 : (0 : Int) ≤ (cap : Int) := by omega
  go_enter Yba.func20, Yba.ntmps20
  go_wp2_with (at_builtin; go_must (refine wpList_append_run _ rfl _ _ 22 3 rfl _ _ rfl rfl _ _ hrun ?_))
  go_ret
  have hr : RowAt (w.alloc (.cells cur 9)) 9 (.slice (some ⟨w.heap.size, 0, none⟩) 0 cap) [] := by
    have := RowAt.made w cur 9 0 (by omega) (by omega)
    rw [h3] at this
    exact this
  exact ⟨_, rfl, hr, ((Below.refl _ _).alloc (Nat.le_refl _) _).drew, by simp [Value.ownBlock]⟩

theorem grow20 (n : Nat) (hn2 : n ≤ 8192) (w : World) : Calls Yba.prog 20 #[.slice none 0 0, .int .i64 (n : Int)] w fun e w' => ∃ v', e = .returned v' ∧ RowAt w' 9 v' [] ∧ Below w.heap.size w w' ∧ (∀ k, v'.ownBlock = some k → w.heap.size ≤ k) := by
  by_cases h : n = 0
  · subst h; exact grow20_zero w
  · exact grow20_pos n (by omega) hn2 w

theorem src_view {w : World} {a : Option Addr} {n c : Nat} {L : List S} (h : View w a n c L) (h0 : a = none → L = [] ∧ c = 0) : Src Yba.prog 1 22 (.slice a n c) n (L.map sv) w := by
  obtain rfl := h.len.out
  exact src_strs h.at_ h0

/-- Concat of two slices: 'pre k': the first k of them, one behind the other -/
theorem concat10 (g : Nat) (pre : Nat → List S) (w : World) (hpre0 : Hid (pre 0 = [])) (hlen : ∀ k, k ≤ 2 → (pre k).length ≤ 4096)
    (hc : Hid (∀ k : Nat, k < 2 → ∃ ak nk dk Lk, w.cell? ⟨g, k, none⟩ = some (.slice ak nk dk) ∧ View w ak nk dk Lk ∧ (ak = none → Lk = [] ∧ dk = 0) ∧ pre (k + 1) = pre k ++ Lk)) (hg : g < w.heap.size) :
    Calls Yba.prog 10 #[.slice (some ⟨g, 0, none⟩) 2 2] w fun e w' => ∃ v', e = .returned v' ∧ RowAt w' 9 v' ((pre 2).map sv) ∧ Below w.heap.size w w' ∧ (∀ k, v'.ownBlock = some k → w.heap.size ≤ k) := by
  have hl2 := hlen 2 (by omega)
  go_enter Yba.func10, Yba.ntmps10
  go_wp2
  go_loop [11, 3, 5] (fun i t _ => ∃ k m : Nat, k ≤ 2 ∧ i = .int .i64 k ∧ t = .int .i64 m ∧ m ≤ 4096 ∧ Hid (m = (pre k).length)) (fun i _ _ => 2 - (intOf i).toNat)
  case atStart => exact ⟨0, 0, by omega, rfl, rfl, by omega, by show _ = _; rw [hpre0.out]; rfl⟩
  case round =>
    obtain ⟨k, m, hk, rfl, rfl, hm, hme⟩ := hrel
    by_cases hk2 : k < 2
    · obtain ⟨ak, nk, dk, Lk, hcell, Vk, z, hp⟩ := hc.out k hk2
      have hk2' : (k : Int) < 2 := by omega
      have hnk := Vk.le
      have hnew : Hid (m + nk = (pre (k + 1)).length) := by
        have := hme.out
        have h2 := Vk.len.out
        show _ = _
        rw [hp]; simp; omega
      have hbd : m + nk ≤ 4096 := by have := hnew.out; have := hlen (k + 1) (by omega); omega
      clear z hp
      go_wp2
      go_round
      case rel => exact ⟨k + 1, m + nk, by omega, by go_num, by go_num, hbd, hnew⟩
      case measure => simp [intOf]; omega
    · obtain rfl : k = 2 := by omega
      go_wp2_with fail
      refine (grow20 m (by omega) w).mono ?_
      rintro e w1 ⟨v1, rfl, r1, b1, o1⟩
      go_wp2
      go_loopw [27, 6, 8] (fun i v _ wr => ∃ k : Nat, k ≤ 2 ∧ i = .int .i64 k ∧ RowAt wr 9 v ((pre k).map sv) ∧ Below w.heap.size w wr ∧ (∀ k, v.ownBlock = some k → w.heap.size ≤ k)) (fun i _ _ _ => 2 - (intOf i).toNat)
      case atStart => exact ⟨0, by omega, rfl, by rw [hpre0.out]; exact r1, b1, o1⟩
      case round =>
        clear r1 b1 o1
        obtain ⟨k, hk, rfl, hr, hb, ho⟩ := hrel
        by_cases hk2 : k < 2
        · obtain ⟨ak, nk, dk, Lk, hcell, Vk, z, hp⟩ := hc.out k hk2
          have hk2' : (k : Int) < 2 := by omega
          have hnk := Vk.le
          have hlk := hlen k (by omega)
          have hcell' : wr.cell? ⟨g, k, none⟩ = some (.slice ak nk dk) := by rw [hb.cell (p := ⟨g, k, none⟩) hg]; exact hcell
          have hsrc := src_view (Vk.below hb) z
          clear hcell z
          have HP : Hid (pre (k + 1) = pre k ++ Lk) := hp
          clear hp
          go_wp2_with (at_builtin; go_must (refine wpList_append_row _ rfl _ _ 22 22 rfl 9 (.string ⟨#[]⟩) 16 Yba.underlying22 info9 rfl _ _ rfl hr _ rfl _ _ hsrc ?h1 ?h2 ?_))
          case h1 => simp; omega
          case h2 => simp; omega
          intro v2 w2 r2 g2
          have b2 : Below w.heap.size w w2 := hb.trans (g2.below hb.size ho)
          have o2 : ∀ k, v2.ownBlock = some k → w.heap.size ≤ k := by
            intro j hj
            rcases g2.own with e | ⟨i, e, hi⟩
            · exact ho j (by rw [← e]; exact hj)
            · rw [hj] at e; cases e; have := hb.size; omega
          have r2' : RowAt w2 9 v2 ((pre (k + 1)).map sv) := by rw [HP.out]; simpa using r2
          clear r2 g2 hb ho hr hsrc hcell'
          go_wp2
          go_roundw
          case rel => exact ⟨k + 1, by omega, by go_num, r2', b2, o2⟩
          case measure => simp [intOf]; omega
        · obtain rfl : k = 2 := by omega
          go_wp2
          go_ret
          exact ⟨_, rfl, hr, hb, ho⟩

end Go.Proofs.Ybulkbxns
