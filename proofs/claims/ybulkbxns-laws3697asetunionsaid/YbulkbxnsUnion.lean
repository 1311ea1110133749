/- union: the walk. -/
import Derived.Test.YbulkbxnsStr
import Derived.RegionTactic
import Derived.Deep.RegionLaw
namespace Go.Proofs.Ybulkbxns
open Go.RowKit Go.Proofs.Own Go.Proofs.UnionMath
set_option maxRecDepth 100000
set_option maxHeartbeats 400000
set_option linter.unusedVariables false
set_option linter.unusedSimpArgs false

theorem make22 (n : Nat) (hn : n ≤ 4096) (w : World) : (Instr.makeSlice 22 (.int .i64 0) (.int .i64 (n : Int))).run Yba.prog w =
    .ok (.slice (some ⟨w.heap.size, 0, none⟩) 0 n) (w.alloc (.cells (madeCells #[.string ⟨#[]⟩] n) 9)) := by
  obtain ⟨i, hi, hzz⟩ := Option.map_eq_some_iff.1 info9
  simp only [Prod.mk.injEq] at hzz
  obtain ⟨hz, hs, hb⟩ := hzz
  have := run_make (P := Yba.prog) w 22 9 i _ Yba.underlying22 hi hz .i64 .i64 0 n (by omega) (by omega) (by rw [hb]; omega) (by omega)
  simpa [hs, Value.cells] using this

/-- append onto a slice of the call's own, as one step of a region that draws -/
theorem step_append_row {P : Program} {ops : Array Oper} {o : Oper} {a : Act} {w : World} {K : Act → World → Prop} {Q : Exit → Act → World → Prop} {E : Prop} (hgd : o.guard = none) (s x : Operand) (t tx : TypeId)
    (ho : o.op = .call { callee := .builtin .append, args := #[s, x], argTypes := #[t, tx] }) (e : TypeId) (z : Value) (bytes : Nat) (ht : P.underlying t = some (.slice e))
    (hinfo : (P.info? e).map (fun i => (i.zero, i.size, i.bytes)) = some (some z, 1, bytes)) (hzs : z.cells.size = 1)
    (v : Value) (xs : List Value) (hv : a.eval s = v) (hown : RowAt w e v xs) (xv : Value) (hx : a.eval x = xv) (n : Nat) (news : List Value) (hs : Src P 1 tx xv n news w) (hbytes : (xs.length + n) * bytes ≤ 140737488355328) (hlen : xs.length + n ≤ 140737488355328)
    (h : ∀ v' w', RowAt w' e v' (xs ++ news) → Grow w w' v v' → K (a.put o.dst v') w') : if Region.wanted o (yielded ops a.tmps) = true then Oper.wp P o a w K Q else E := by
  have hw : Region.wanted o (yielded ops a.tmps) = true := by simp [Region.wanted, hgd]
  rw [if_pos hw]
  obtain ⟨i, hi, hzz⟩ := Option.map_eq_some_iff.1 hinfo
  simp only [Prod.mk.injEq] at hzz
  obtain ⟨hz, hs1, hb⟩ := hzz
  obtain ⟨v', w', hr, h1, h2⟩ := run_append_row (P := P) w t tx o.type e i z bytes ht hi hz hs1 hb hzs v xs hown xv n news hs hbytes hlen
  unfold Oper.wp execOp
  simp only [ho, resolve, invoke, builtin, Sem.run_bind, Sem.run_pure, Result.andThen_ok, List.map_toArray, List.map_cons, List.map_nil, hv, hx, hr]
  exact h v' w' h1 h2

theorem src_str (w : World) (x : S) (n : Nat) : Src Yba.prog 1 22 (.slice (some ⟨w.heap.size, 0, none⟩) 1 1) 1 [sv x] ((w.alloc (.cells #[.string ⟨x.toArray⟩] 9)).drewN n) :=
  Src.ofSlice _ Yba.underlying22 _ _ _ _ rfl (fun j u hj => by
    match j, hj with
    | 0, hj => simp at hj; subst hj; simp [Addr.add, sv]) (fun u hu => by simp at hu; subst hu; rfl)

def slen : Value → Nat
  | .slice _ n _ => n
  | _ => 0

/-- what is left of one of the two lists: the slice, in the world w of the entry -/
structure Left (w : World) (v : Value) (L : List S) : Prop where
  ex : ∃ a n c, v = .slice a n c ∧ Hid (n = L.length) ∧ n ≤ c ∧ StrsAt w a L

theorem left_tail {w : World} {g o n d : Nat} {y : S} {B : List S} (hn : Hid (n = (y :: B).length)) (hd : n ≤ d) (h : StrsAt w (some ⟨g, o, none⟩) (y :: B)) :
    Left w (.slice (if d = 1 then some ⟨g, o, none⟩ else some ⟨g, o + 1, none⟩) (n - 1) (d - 1)) B := by
  have hn' := hn.out
  simp only [List.length_cons] at hn'
  refine ⟨_, _, _, rfl, by show _ = _; omega, by omega, fun i hi => ?_⟩
  obtain ⟨b, off, e, hlt, hc⟩ := h (i + 1) (by simp; omega)
  cases e
  rw [if_neg (by omega)]
  refine ⟨g, o + 1, rfl, hlt, ?_⟩
  rw [show o + 1 + i = o + (i + 1) by omega, hc]
  simp

/-- behind an append of one string: the row, its owner, the old memory -/
theorem grown_one {w wr w' : World} {u v' : Value} {U : List S} {y : S} {o : Obj} {k : Nat} (hrow : RowAt wr 9 u (U.map sv)) (hown : ∀ k, u.ownBlock = some k → w.heap.size ≤ k) (hB : Below w.heap.size w wr)
    (hr : RowAt w' 9 v' (U.map sv ++ [sv y])) (hg : Grow ((wr.alloc o).drewN k) w' u v') : RowAt w' 9 v' ((U ++ [y]).map sv) ∧ (∀ k, v'.ownBlock = some k → w.heap.size ≤ k) ∧ Below w.heap.size w w' := by
  have hsz := hB.size
  refine ⟨by simpa using hr, ?_, ?_⟩
  · intro j hj
    rcases hg.own with e | ⟨i, e, hi⟩
    · exact hown j (by rw [← e]; exact hj)
    · rw [hj] at e; cases e; simp at hi; omega
  · exact (below_drewN (hB.alloc hsz o) k).trans (hg.below (by simp; omega) hown)

theorem union9 (a1 : Option Addr) (c1 : Nat) (A : List S) (a2 : Option Addr) (c2 : Nat) (B : List S) (w : World) (hlA : A.length ≤ 1024) (hlB : B.length ≤ 1024) (hA : StrsAt w a1 A) (hB : StrsAt w a2 B) (hc1 : A.length ≤ c1) (hc2 : B.length ≤ c2) :
    Calls Yba.prog 9 #[.slice a1 A.length c1, .slice a2 B.length c2] w fun e w' => ∃ v', e = .returned v' ∧ RowAt w' 9 v' ((mg (A.length + B.length) A B).map sv) ∧ Below w.heap.size w w' ∧ (∀ k, v'.ownBlock = some k → w.heap.size ≤ k) := by
  have hmk : ∀ w, (Instr.makeSlice 22 (.int .i64 0) (.int .i64 (max (A.length : Int) (B.length : Int)))).run Yba.prog w = .ok (.slice (some ⟨w.heap.size, 0, none⟩) 0 (max A.length B.length)) (w.alloc (.cells (madeCells #[.string ⟨#[]⟩] (max A.length B.length)) 9)) := fun w => by
    have := make22 (max A.length B.length) (by omega) w
    rwa [show ((max A.length B.length : Nat) : Int) = max (A.length : Int) (B.length : Int) by omega] at this
  have H0 : RowAt (w.alloc (.cells (madeCells #[.string ⟨#[]⟩] (max A.length B.length)) 9)) 9 (.slice (some ⟨w.heap.size, 0, none⟩) 0 (max A.length B.length)) (([] : List S).map sv) := by
    have := RowAt.made w (madeCells #[.string ⟨#[]⟩] (max A.length B.length)) 9 0 (by simp) (by rw [size_madeCells]; unfold maxLen; omega)
    rw [size_madeCells] at this
    exact this
  go_enter Yba.func9, Yba.ntmps9
  go_wp2
  go_loopw [0, 1, 5] (fun t0 t1 u wr => ∃ (f : Nat) (A' B' U : List S), Left w t0 A' ∧ Left w t1 B' ∧ A'.length + B'.length ≤ f ∧ U.length + A'.length + B'.length ≤ 4096 ∧ Hid (U ++ mg f A' B' = mg (A.length + B.length) A B) ∧
      RowAt wr 9 u (U.map sv) ∧ (∀ k, u.ownBlock = some k → w.heap.size ≤ k) ∧ Below w.heap.size w wr) (fun t0 t1 _ _ => slen t0 + slen t1)
  case atStart =>
    refine ⟨A.length + B.length, A, B, [], ⟨a1, _, c1, rfl, rfl, hc1, hA⟩, ⟨a2, _, c2, rfl, rfl, hc2, hB⟩, by omega, by simp; omega, ?_, H0, by simp [Value.ownBlock], (Below.refl _ _).alloc (Nat.le_refl _) _⟩
    show _ = _
    rfl
  case round =>
    obtain ⟨f, A', B', U, ⟨b1, n1, d1, rfl, hn1, hd1, sA⟩, ⟨b2, n2, d2, rfl, hn2, hd2, sB⟩, hf, hlen, hu, hrow, hown, hBr⟩ := hrel
    clear H0 hmk hA hB
    have sA' := sA.below hBr
    have sB' := sB.below hBr
    have hn14 : n1 ≤ 4096 := by have := hn1.out; omega
    have hn24 : n2 ≤ 4096 := by have := hn2.out; omega
    cases A' with
    | nil =>
      obtain rfl : n1 = 0 := hn1.out
      cases B' with
      | nil =>
        obtain rfl : n2 = 0 := hn2.out
        go_wp2
        go_ret
        have := hu.out
        rw [mg_nil_left, List.append_nil] at this
        exact ⟨_, rfl, by rw [← this]; exact hrow, hBr, hown⟩
      | cons y B' =>
        have hpos : 0 < n2 := by have := hn2.out; simp at this; omega
        obtain ⟨g2, o2, rfl, hb2, hc2⟩ := sB' 0 (by simp)
        simp only [List.getD_cons_zero, Nat.add_zero] at hc2
        unfold sv at hc2
        have e1 : ((n2 : Int) == 0) = false := by simp; omega
        have e2 : (0 : Int) < (n2 : Int) := by omega
        have e3 : decide ((0 : Int) < 0) = false := rfl
        have e5 : (1 : Int) ≤ (n2 : Int) := by omega
        have LT := left_tail hn2 hd2 sB
        have HU : Hid ((U ++ [y]) ++ mg f [] B' = mg (A.length + B.length) A B) := by
          have := hu.out
          rw [mg_nil_left] at this ⊢
          show _ = _
          rw [← this]; simp
        go_wp2_with fail
        go_quiet (fail)
        go_wp2
        go_quiet (fail)
        go_wp2
        have hrow' : ∀ k o, RowAt ((wr.alloc o).drewN k) 9 u5 (U.map sv) := fun k o => (hrow.alloc o).drewN k
        have hsrc : ∀ k, Src Yba.prog 1 22 (.slice (some ⟨wr.heap.size, 0, none⟩) 1 1) 1 [sv y] ((wr.alloc (.cells #[.string ⟨y.toArray⟩] 9)).drewN k) := fun k => src_str wr y k
        have hl1 : U.length ≤ 4096 := by omega
        go_region_law (refine step_append_row rfl (.tmp 69) (.tmp 73) 22 22 rfl 9 (.string ⟨#[]⟩) 16 Yba.underlying22 info9 rfl u5 (U.map sv) (by simp [Act.eval, Act.put]) (by exact hrow' _ _) (.slice (some ⟨wr.heap.size, 0, none⟩) 1 1) (by simp [Act.eval, Act.put]) 1 [sv y] (by exact hsrc _) (by simp; omega) (by simp; omega) ?_; intro v' w' hr hg)
        all_goals
          obtain ⟨R1, R2, R3⟩ := grown_one hrow hown hBr hr hg
          generalize (if d2 = 1 then some ({ block := g2, off := o2 } : Addr) else some { block := g2, off := o2 + 1 }) = ad at LT ⊢
          clear hr hg hrow hrow' hsrc hown hBr sA' sB' hc2
          simp [Act.put]
          go_wp2
          go_roundw
          case rel => exact ⟨f, [], B', U ++ [y], ⟨b1, 0, d1, rfl, rfl, by omega, fun i hi => absurd hi (by simp)⟩, LT, by simp at hf ⊢; omega, by simp at hlen ⊢; omega, HU, R1, R2, R3⟩
          case measure => simp [slen]; omega
    | cons x A' =>
      cases B' with
      | nil =>
        obtain rfl : n2 = 0 := hn2.out
        have hpos : 0 < n1 := by have := hn1.out; simp at this; omega
        obtain ⟨g1, o1, rfl, hb1, hc1'⟩ := sA' 0 (by simp)
        simp only [List.getD_cons_zero, Nat.add_zero] at hc1'
        unfold sv at hc1'
        have e1 : ((n1 : Int) == 0) = false := by simp; omega
        have e2 : (0 : Int) < (n1 : Int) := by omega
        have e3 : decide ((0 : Int) < 0) = false := rfl
        have e5 : (1 : Int) ≤ (n1 : Int) := by omega
        have LT := left_tail hn1 hd1 sA
        have HU : Hid ((U ++ [x]) ++ mg f A' [] = mg (A.length + B.length) A B) := by
          have := hu.out
          rw [mg_nil_right] at this ⊢
          show _ = _
          rw [← this]; simp
        go_wp2_with fail
        go_quiet (fail)
        go_wp2
        have hrow' : ∀ k o, RowAt ((wr.alloc o).drewN k) 9 u5 (U.map sv) := fun k o => (hrow.alloc o).drewN k
        have hsrc : ∀ k, Src Yba.prog 1 22 (.slice (some ⟨wr.heap.size, 0, none⟩) 1 1) 1 [sv x] ((wr.alloc (.cells #[.string ⟨x.toArray⟩] 9)).drewN k) := fun k => src_str wr x k
        have hl1 : U.length ≤ 4096 := by omega
        go_region_law (refine step_append_row rfl (.tmp 48) (.tmp 52) 22 22 rfl 9 (.string ⟨#[]⟩) 16 Yba.underlying22 info9 rfl u5 (U.map sv) (by simp [Act.eval, Act.put]) (by exact hrow' _ _) (.slice (some ⟨wr.heap.size, 0, none⟩) 1 1) (by simp [Act.eval, Act.put]) 1 [sv x] (by exact hsrc _) (by simp; omega) (by simp; omega) ?_; intro v' w' hr hg)
        all_goals
          obtain ⟨R1, R2, R3⟩ := grown_one hrow hown hBr hr hg
          generalize (if d1 = 1 then some ({ block := g1, off := o1 } : Addr) else some { block := g1, off := o1 + 1 }) = ad at LT ⊢
          clear hr hg hrow hrow' hsrc hown hBr sA' sB' hc1'
          simp [Act.put]
          go_wp2
          go_roundw
          case rel => exact ⟨f, A', [], U ++ [x], LT, ⟨b2, 0, d2, rfl, rfl, by omega, fun i hi => absurd hi (by simp)⟩, by simp at hf ⊢; omega, by simp at hlen ⊢; omega, HU, R1, R2, R3⟩
          case measure => simp [slen]; omega
      | cons y B' =>
        have hpos1 : 0 < n1 := by have := hn1.out; simp at this; omega
        have hpos2 : 0 < n2 := by have := hn2.out; simp at this; omega
        obtain ⟨g1, o1, rfl, hb1, hc1'⟩ := sA' 0 (by simp)
        obtain ⟨g2, o2, rfl, hb2, hc2'⟩ := sB' 0 (by simp)
        simp only [List.getD_cons_zero, Nat.add_zero] at hc1' hc2'
        unfold sv at hc1' hc2'
        have e1 : ((n2 : Int) == 0) = false := by simp; omega
        have e2 : (0 : Int) < (n1 : Int) := by omega
        have e3 : (0 : Int) < (n2 : Int) := by omega
        have e5 : (1 : Int) ≤ (n1 : Int) := by omega
        have e6 : (1 : Int) ≤ (n2 : Int) := by omega
        have e7 : ((n1 : Int) == 0) = false := by simp; omega
        have LT := left_tail hn1 hd1 sA
        have LT2 := left_tail hn2 hd2 sB
        obtain ⟨f', rfl⟩ : ∃ f', f = f' + 1 := ⟨f - 1, by simp at hf; omega⟩
        have hu' := hu.out
        simp only [mg] at hu'
        have HUU : Hid (U ++ (if x < y then x :: mg f' A' (y :: B') else if y < x then y :: mg f' (x :: A') B' else x :: mg f' A' B') = mg (A.length + B.length) A B) := hu'
        clear hu' hu
        by_cases hxy : x < y
        · have e8 : Op.bytesLess x y = true := by rw [bytesLess_eq]; simpa using hxy
          have HU : Hid ((U ++ [x]) ++ mg f' A' (y :: B') = mg (A.length + B.length) A B) := by
            have := HUU.out
            rw [if_pos hxy] at this
            show _ = _
            rw [← this]; simp
          clear hxy
          go_wp2_with fail
          go_quiet (fail)
          go_wp2
          have hrow' : ∀ k o, RowAt ((wr.alloc o).drewN k) 9 u5 (U.map sv) := fun k o => (hrow.alloc o).drewN k
          have hsrc : ∀ k, Src Yba.prog 1 22 (.slice (some ⟨wr.heap.size, 0, none⟩) 1 1) 1 [sv x] ((wr.alloc (.cells #[.string ⟨x.toArray⟩] 9)).drewN k) := fun k => src_str wr x k
          have hl1 : U.length ≤ 4096 := by omega
          go_region_law (refine step_append_row rfl (.tmp 48) (.tmp 52) 22 22 rfl 9 (.string ⟨#[]⟩) 16 Yba.underlying22 info9 rfl u5 (U.map sv) (by simp [Act.eval, Act.put]) (by exact hrow' _ _) (.slice (some ⟨wr.heap.size, 0, none⟩) 1 1) (by simp [Act.eval, Act.put]) 1 [sv x] (by exact hsrc _) (by simp; omega) (by simp; omega) ?_; intro v' w' hr hg)
          all_goals
            obtain ⟨R1, R2, R3⟩ := grown_one hrow hown hBr hr hg
            generalize (if d1 = 1 then some ({ block := g1, off := o1 } : Addr) else some { block := g1, off := o1 + 1 }) = ad at LT ⊢
            clear hr hg hrow hrow' hsrc hown hBr sA' sB' hc1' hc2'
            simp [Act.put]
            go_wp2
            go_roundw
            case rel => exact ⟨f', A', y :: B', U ++ [x], LT, ⟨_, n2, d2, rfl, hn2, hd2, sB⟩, by simp at hf ⊢; omega, by simp at hlen ⊢; omega, HU, R1, R2, R3⟩
            case measure => simp [slen]; omega
        · have e8 : Op.bytesLess x y = false := by rw [bytesLess_eq]; simpa using hxy
          by_cases hyx : y < x
          · have e9 : Op.bytesLess y x = true := by rw [bytesLess_eq]; simpa using hyx
            have HU : Hid ((U ++ [y]) ++ mg f' (x :: A') B' = mg (A.length + B.length) A B) := by
              have := HUU.out
              rw [if_neg hxy, if_pos hyx] at this
              show _ = _
              rw [← this]; simp
            clear hxy hyx
            go_wp2_with fail
            go_quiet (fail)
            go_wp2
            go_quiet (fail)
            go_wp2
            have hrow' : ∀ k o, RowAt ((wr.alloc o).drewN k) 9 u5 (U.map sv) := fun k o => (hrow.alloc o).drewN k
            have hsrc : ∀ k, Src Yba.prog 1 22 (.slice (some ⟨wr.heap.size, 0, none⟩) 1 1) 1 [sv y] ((wr.alloc (.cells #[.string ⟨y.toArray⟩] 9)).drewN k) := fun k => src_str wr y k
            have hl1 : U.length ≤ 4096 := by omega
            go_region_law (refine step_append_row rfl (.tmp 69) (.tmp 73) 22 22 rfl 9 (.string ⟨#[]⟩) 16 Yba.underlying22 info9 rfl u5 (U.map sv) (by simp [Act.eval, Act.put]) (by exact hrow' _ _) (.slice (some ⟨wr.heap.size, 0, none⟩) 1 1) (by simp [Act.eval, Act.put]) 1 [sv y] (by exact hsrc _) (by simp; omega) (by simp; omega) ?_; intro v' w' hr hg)
            all_goals
              obtain ⟨R1, R2, R3⟩ := grown_one hrow hown hBr hr hg
              generalize (if d2 = 1 then some ({ block := g2, off := o2 } : Addr) else some { block := g2, off := o2 + 1 }) = bd at LT2 ⊢
              clear hr hg hrow hrow' hsrc hown hBr sA' sB' hc1' hc2'
              simp [Act.put]
              go_wp2
              go_roundw
              case rel => exact ⟨f', x :: A', B', U ++ [y], ⟨_, n1, d1, rfl, hn1, hd1, sA⟩, LT2, by simp at hf ⊢; omega, by simp at hlen ⊢; omega, HU, R1, R2, R3⟩
              case measure => simp [slen]; omega
          · have e9 : Op.bytesLess y x = false := by rw [bytesLess_eq]; simpa using hyx
            have hxe : x = y := List.le_antisymm hyx hxy
            have HU : Hid ((U ++ [x]) ++ mg f' A' B' = mg (A.length + B.length) A B) := by
              have := HUU.out
              rw [if_neg hxy, if_neg hyx] at this
              show _ = _
              rw [← this]; simp
            clear hxy hyx hxe
            go_wp2_with fail
            go_quiet (fail)
            go_wp2
            go_quiet (fail)
            go_wp2
            have hrow' : ∀ k o, RowAt ((wr.alloc o).drewN k) 9 u5 (U.map sv) := fun k o => (hrow.alloc o).drewN k
            have hsrc : ∀ k, Src Yba.prog 1 22 (.slice (some ⟨wr.heap.size, 0, none⟩) 1 1) 1 [sv x] ((wr.alloc (.cells #[.string ⟨x.toArray⟩] 9)).drewN k) := fun k => src_str wr x k
            have hl1 : U.length ≤ 4096 := by omega
            go_region_law (refine step_append_row rfl (.tmp 20) (.tmp 24) 22 22 rfl 9 (.string ⟨#[]⟩) 16 Yba.underlying22 info9 rfl u5 (U.map sv) (by simp [Act.eval, Act.put]) (by exact hrow' _ _) (.slice (some ⟨wr.heap.size, 0, none⟩) 1 1) (by simp [Act.eval, Act.put]) 1 [sv x] (by exact hsrc _) (by simp; omega) (by simp; omega) ?_; intro v' w' hr hg)
            all_goals
              obtain ⟨R1, R2, R3⟩ := grown_one hrow hown hBr hr hg
              generalize (if d1 = 1 then some ({ block := g1, off := o1 } : Addr) else some { block := g1, off := o1 + 1 }) = ad at LT ⊢
              generalize (if d2 = 1 then some ({ block := g2, off := o2 } : Addr) else some { block := g2, off := o2 + 1 }) = bd at LT2 ⊢
              clear hr hg hrow hrow' hsrc hown hBr sA' sB' hc1' hc2'
              simp [Act.put]
              go_wp2
              go_roundw
              case rel => exact ⟨f', A', B', U ++ [x], LT, LT2, by simp at hf ⊢; omega, by simp at hlen ⊢; omega, HU, R1, R2, R3⟩
              case measure => simp [slen]; omega
end Go.Proofs.Ybulkbxns
