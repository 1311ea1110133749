/- Slices of strings: slices.Sort, Compact, Clone, Equal, and the law's count. -/
import Derived.Test.YbulkbxnsOwn
import Derived.Test.YbulkbxnsShelf
import Derived.Test.YbulkbxnsMath
import Derived.WalkLawsBesides
import Derived.WalkSpells
import Derived.Deep.DeepMust
import Derived.Deep.QuietTactic
import Derived.BigQuiet
namespace Go.Proofs.Ybulkbxns
open Go.RowKit Go.Proofs.Own Go.Proofs.UnionMath
set_option maxRecDepth 100000
set_option maxHeartbeats 800000
set_option linter.unusedVariables false
set_option linter.unusedSimpArgs false

theorem info9 : (Yba.prog.info? 9).map (fun i => (i.zero, i.size, i.bytes)) = some (some (.string ⟨#[]⟩), 1, 16) := by kernel_rfl

/-- a string as a cell -/
def sv (l : S) : Value := .string ⟨l.toArray⟩

/-- the slice at a, of L.length elements, holds L -/
def StrsAt (w : World) (a : Option Addr) (L : List S) : Prop :=
  ∀ i, i < L.length → ∃ b off, a = some ⟨b, off, none⟩ ∧ b < w.heap.size ∧ w.cell? ⟨b, off + i, none⟩ = some (sv (L.getD i []))

theorem StrsAt.kept {w w' : World} {a : Option Addr} {L : List S} (h : StrsAt w a L) (hs : w.heap.size ≤ w'.heap.size) (hb : ∀ x, a = some x → x.block < w.heap.size → w'.heap[x.block]? = w.heap[x.block]?) : StrsAt w' a L := by
  intro i hi
  obtain ⟨b, off, e, hlt, h1⟩ := h i hi
  exact ⟨b, off, e, by omega, by rw [World.cell?_of_block (w := w) (a := ⟨b, off + i, none⟩) (hb ⟨b, off, none⟩ e hlt)]; exact h1⟩

theorem StrsAt.below {w w' : World} {a : Option Addr} {L : List S} (h : StrsAt w a L) (hb : Below w.heap.size w w') : StrsAt w' a L :=
  h.kept hb.size fun x _ hx => hb.block _ hx

theorem RowAt.strs {w : World} {v : Value} {L : List S} (h : RowAt w 9 v (L.map sv)) : ∃ a c, v = .slice a L.length c ∧ StrsAt w a L ∧ (∀ x, a = some x → v.ownBlock = some x.block) := by
  rcases h with ⟨rfl, hx⟩ | ⟨g, cap, cur, rfl, hg, hn, hm, hs, ht⟩
  · have hb : L = [] := by simpa using hx
    subst hb
    exact ⟨none, 0, rfl, fun i hi => absurd hi (by simp), fun x hx => by cases hx⟩
  · refine ⟨some ⟨g, 0, none⟩, cap, by simp, fun i hi => ⟨g, 0, rfl, (Array.getElem?_eq_some_iff.1 hg).1, ?_⟩, fun x hx => by cases hx; rfl⟩
    have := RowAt.cell (w := w) (e := 9) (v := .slice (some ⟨g, 0, none⟩) (L.map sv).length cap) (xs := L.map sv) (.inr ⟨g, cap, cur, rfl, hg, hn, hm, hs, ht⟩) rfl (j := i) (u := sv (L.getD i [])) (by simp [hi])
    simpa using this

/-! ### the sort -/
theorem put_blk {w : World} {g n : Nat} {cur : Array Value} {e : TypeId} (hg : w.heap[g]? = some (.cells cur e (0, 0))) (d : Array S) (hd : d.size ≤ cur.size) (os : Array Obj) :
    ∃ cur', (Sort.grow (Sort.putRow encStr (Sort.ahead w n) g 0 d) os).heap[g]? = some (.cells cur' e (0, 0)) ∧ cur'.size = cur.size ∧ cur'.toList.take d.size = d.toList.map sv := by
  have hlt : g < w.heap.size := (Array.getElem?_eq_some_iff.1 hg).1
  refine ⟨Sort.putCells encStr 0 d cur, ?_, by simp [Sort.putCells], ?_⟩
  · simp only [Sort.grow, Sort.putRow, Sort.mapBlock, Sort.ahead]
    rw [Array.getElem?_append_left (by simpa using hlt), Array.getElem?_modify, if_pos rfl, hg]
    rfl
  · apply List.ext_getElem?
    intro i
    rw [List.getElem?_take]
    by_cases hi : i < d.size
    · simp only [hi, if_true, Array.getElem?_toList, Sort.putCells, Array.getElem?_mapIdx]
      have h1 : i < cur.size := by omega
      simp [h1, hi, sv, getElem!_pos]
    · simp [hi]

theorem put_frame (w : World) (g n : Nat) (d : Array S) (os : Array Obj) (k : Nat) (hk : k < w.heap.size) (hne : k ≠ g) : (Sort.grow (Sort.putRow encStr (Sort.ahead w n) g 0 d) os).heap[k]? = w.heap[k]? := by
  simp only [Sort.grow, Sort.putRow, Sort.mapBlock, Sort.ahead]
  rw [Array.getElem?_append_left (by simpa using hk), Array.getElem?_modify, if_neg (Ne.symm hne)]

theorem holds_row {w : World} {g : Nat} {cur : Array Value} {e : TypeId} {L : List S} (hg : w.heap[g]? = some (.cells cur e (0, 0))) (ht : cur.toList.take L.length = L.map sv) : Sort.Holds encStr w g 0 L.toArray := by
  intro j hj
  have hj' : j < L.length := by simpa using hj
  refine ⟨?_, by simp [World.frozen?, hg]⟩
  have h1 : (cur.toList.take L.length)[j]? = (L.map sv)[j]? := by rw [ht]
  rw [List.getElem?_take, if_pos hj'] at h1
  simp only [Array.getElem?_toList] at h1
  simp [World.cell?, hg, h1, hj', sv, getElem!_pos]

theorem sort11 (v : Value) (L : List S) (w : World) (h : RowAt w 9 v (L.map sv)) (hl : L.length ≤ 1099511627776) :
    Calls Yba.prog 11 #[v] w fun e w' => e = .returned (.tuple #[]) ∧ RowAt w' 9 v ((srt L).map sv) ∧ Grow w w' v v := by
  rcases h with ⟨rfl, hx⟩ | ⟨g, cap, cur, rfl, hg, hn, hm, hs, ht⟩
  · have hb : L = [] := by simpa using hx
    subst hb
    refine (Yba.slices_Sort_string_none none 0 w).mono ?_
    rintro e w' ⟨rfl, hw⟩
    subst hw
    exact ⟨rfl, .inl ⟨rfl, by simp [srt]⟩, Grow.refl _ _⟩
  · simp only [List.length_map] at hn ht ⊢
    refine (Yba.slices_Sort_string g 0 cap L w (holds_row hg ht) (Array.getElem?_eq_some_iff.1 hg).1 (by omega)).mono ?_
    rintro e w' ⟨rfl, n, os, hw⟩
    obtain ⟨cur', h1, h2, h3⟩ := put_blk (n := n) hg (srt L).toArray (by simp [srt_len]; omega) os
    have hw' : w' = Sort.grow (Sort.putRow encStr (Sort.ahead w n) g 0 (srt L).toArray) os := hw
    refine ⟨rfl, .inr ⟨g, cap, cur', by simp [srt_len], by rw [hw']; exact h1, by simp [srt_len]; exact hn, hm, by omega, by simpa using h3⟩, ?_⟩
    rw [hw']
    exact ⟨rfl, rfl, rfl, by simp [Sort.grow], fun k hk hne => put_frame w g n _ os k hk (fun e => hne (by rw [e]; rfl)), .inl rfl⟩

/-- Compact: what is kept lies at the row's head -/
theorem compact12 (v : Value) (L : List S) (w : World) (h : RowAt w 9 v (L.map sv)) (hl : L.length ≤ 1099511627776) :
    Calls Yba.prog 12 #[v] w fun e w' => ∃ v', e = .returned v' ∧ v'.ownBlock = v.ownBlock ∧ RowAt w' 9 v' ((Lib.compactUpTo L.toArray L.length).map sv) ∧ Grow w w' v v' := by
  rcases h with ⟨rfl, hx⟩ | ⟨g, cap, cur, rfl, hg, hn, hm, hs, ht⟩
  · have hb : L = [] := by simpa using hx
    subst hb
    go_enter Yba.func12, Yba.ntmps12
    go_wp2
    go_ret
    exact ⟨_, rfl, rfl, .inl ⟨rfl, by simp [Lib.compactUpTo]⟩, Grow.refl _ _⟩
  · simp only [List.length_map] at hn ht ⊢
    have hc := Yba.slices_Compact_string_arr g 0 cap L.toArray w (holds_row hg ht) (by simp; omega) (by simpa using hn)
    simp only [List.size_toArray] at hc
    refine hc.mono ?_
    rintro e w' ⟨rfl, q, hw⟩
    have hlen : (Lib.compactUpTo L.toArray L.length).length ≤ L.length := by
      unfold Lib.compactUpTo
      rw [List.length_map]
      exact Nat.le_trans (List.length_filter_le _ _) (by simp)
    obtain ⟨cur', h1, h2, h3⟩ := put_blk (n := q) hg (Lib.compactUpTo L.toArray L.length ++ List.replicate (L.length - (Lib.compactUpTo L.toArray L.length).length) []).toArray (by simp; omega) #[]
    rw [Sort.grow_empty] at h1
    have hfr := fun k hk hne => put_frame w g q (Lib.compactUpTo L.toArray L.length ++ List.replicate (L.length - (Lib.compactUpTo L.toArray L.length).length) []).toArray #[] k hk hne
    rw [Sort.grow_empty] at hfr
    subst hw
    refine ⟨_, rfl, rfl, .inr ⟨g, cap, cur', by simp, h1, by simp; omega, hm, by omega, ?_⟩, ⟨rfl, rfl, rfl, by simp, fun k hk hne => hfr k hk (fun e => hne (by rw [e]; rfl)), .inl rfl⟩⟩
    have h4 := congrArg (List.take (Lib.compactUpTo L.toArray L.length).length) h3
    rw [List.take_take] at h4
    simp only [List.size_toArray, List.length_append, List.length_replicate, List.map_append] at h4
    rw [Nat.min_eq_left (by omega)] at h4
    rw [List.length_map, h4]
    exact List.take_left' (by simp)


/-! ### count, Equal, Clone -/
theorem sv_eq (x y : S) : (sv x = sv y) ↔ x = y := by simp [sv]

theorem count14 (a : Option Addr) (c : Nat) (L : List S) (s : S) (w : World) (hl : L.length ≤ 1099511627776) (h : StrsAt w a L) :
    Calls Yba.prog 14 #[.slice a L.length c, sv s] w fun e w' => e = .returned (.int .i64 (L.count s)) ∧ w' = w := by
  unfold sv
  go_enter Yba.func14, Yba.ntmps14
  go_wp2
  go_loop [5, 6] (fun t i => ∃ k : Nat, k ≤ L.length ∧ i = .int .i64 k ∧ ∃ q : Nat, q ≤ k ∧ t = .int .i64 q ∧ Hid ((L.take k).count s = q)) (fun _ i => L.length - (intOf i).toNat)
  case atStart => exact ⟨0, Nat.zero_le _, rfl, 0, Nat.le_refl _, rfl, by show _ = _; simp⟩
  case round =>
    obtain ⟨k, hk, rfl, q, hq, rfl, hcnt⟩ := hrel
    by_cases hlt : k < L.length
    · obtain ⟨b, off, rfl, hb, hc⟩ := h k hlt
      have hlt' : (k : Int) < (L.length : Int) := by omega
      have htk : L.take (k + 1) = L.take k ++ [L.getD k []] := by rw [List.take_succ_eq_append_getElem hlt]; simp [hlt]
      generalize hx : L.getD k [] = x at hc htk
      have HT : Hid (L.take (k + 1) = L.take k ++ [x]) := htk
      have HX : Hid (L.getD k [] = x) := hx
      clear htk hx
      unfold sv at hc
      by_cases he : x = s
      · subst he
        go_wp2
        go_round
        case rel =>
          refine ⟨k + 1, by omega, by go_num, q + 1, by omega, by go_num, ?_⟩
          show _ = _
          rw [HT.out, List.count_append, hcnt.out]; simp
        case measure => simp [intOf]; omega
      · have he1 : (x == s) = false := by simpa using he
        have HE : Hid (¬ x = s) := he
        clear he
        go_wp2
        go_round
        case rel =>
          refine ⟨k + 1, by omega, by go_num, q, by omega, rfl, ?_⟩
          show _ = _
          rw [HT.out, List.count_append, hcnt.out]; simp [HE.out]
        case measure => simp [intOf]; omega
    · obtain rfl : k = L.length := by omega
      go_wp2
      go_ret
      have := hcnt.out
      rw [List.take_length] at this
      exact ⟨by rw [this]; rfl, rfl⟩

theorem equal13 (a1 : Option Addr) (c1 : Nat) (a2 : Option Addr) (c2 : Nat) (L : List S) (w : World) (hl : L.length ≤ 1099511627776) (h1 : StrsAt w a1 L) (h2 : StrsAt w a2 L) :
    Calls Yba.prog 13 #[.slice a1 L.length c1, .slice a2 L.length c2] w fun e w' => e = .returned (.bool true) ∧ ∃ q, w' = w.drewN q := by
  go_enter Yba.func13, Yba.ntmps13
  go_wp2
  go_loopw [13, 5] (fun i _ wr => ∃ k : Nat, k ≤ L.length ∧ i = .int .i64 k ∧ ∃ q, wr = w.drewN q) (fun i _ _ => L.length - (intOf i).toNat)
  case atStart => exact ⟨0, Nat.zero_le _, rfl, 0, rfl⟩
  case round =>
    obtain ⟨k, hk, rfl, q, rfl⟩ := hrel
    by_cases hlt : k < L.length
    · obtain ⟨b, off, rfl, hb, hc⟩ := h1 k hlt
      obtain ⟨b', off', rfl, hb', hc'⟩ := h2 k hlt
      have hlt' : (k : Int) < (L.length : Int) := by omega
      clear h1 h2
      unfold sv at hc hc'
      go_wp2
      go_quiet (fail)
      go_wp2
      go_roundw
      case rel => exact ⟨k + 1, by omega, by go_num, _, rfl⟩
      case measure => simp [intOf]; omega
    · go_wp2
      go_ret
      exact ⟨rfl, _, rfl⟩

theorem src_strs {w : World} {a : Option Addr} {c : Nat} {L : List S} (h : StrsAt w a L) (h0 : a = none → L = [] ∧ c = 0) : Src Yba.prog 1 22 (.slice a L.length c) L.length (L.map sv) w := by
  cases a with
  | none =>
    obtain ⟨rfl, rfl⟩ := h0 rfl
    exact Src.ofNil w Yba.underlying22 0
  | some a =>
    refine Src.ofSlice w Yba.underlying22 a L.length c _ (by simp) (fun j u hj => ?_) (fun u hu => ?_)
    · have hjn : j < L.length := by
        rcases Nat.lt_or_ge j L.length with h | h
        · exact h
        · rw [List.getElem?_eq_none (by simpa using h)] at hj; cases hj
      obtain ⟨b, off, e, hlt, hc⟩ := h j hjn
      cases e
      rw [Addr.add_lit, hc]
      simpa [hjn] using hj
    · obtain ⟨n, _, rfl⟩ := List.mem_map.1 hu
      rfl

theorem clone8 (a : Option Addr) (c : Nat) (L : List S) (w : World) (hl : L.length ≤ 4096) (h : StrsAt w a L) (h0 : a = none → L = [] ∧ c = 0) :
    Calls Yba.prog 8 #[.slice a L.length c] w fun e w' => ∃ v', e = .returned v' ∧ RowAt w' 9 v' (L.map sv) ∧ Below w.heap.size w w' ∧ (∀ k, v'.ownBlock = some k → w.heap.size ≤ k) := by
  cases a with
  | none =>
    obtain ⟨rfl, rfl⟩ := h0 rfl
    have hnil := fun w => Lib.run_eql_slice_nil (P := Yba.prog) w 22 9 none 0 0 0 0 Yba.underlying22
    go_enter Yba.func8, Yba.ntmps8
    go_wp2
    go_ret
    exact ⟨_, rfl, RowAt.nil _ _, Below.refl _ _, by simp [Value.ownBlock]⟩
  | some a =>
    have hnil := fun w => Lib.run_eql_slice_nil (P := Yba.prog) w 22 9 (some a) L.length c 0 0 Yba.underlying22
    have hr0 : RowAt (w.alloc (.cells #[] 9)) 9 (.slice (some ⟨w.heap.size, 0, none⟩) 0 0) [] := RowAt.made w #[] 9 0 (by simp) (by simp)
    have hsrc : Src Yba.prog 1 22 (.slice (some a) L.length c) L.length (L.map sv) (w.alloc (.cells #[] 9)) := src_strs (h.below ((Below.refl _ _).alloc (Nat.le_refl _) _)) h0
    go_enter Yba.func8, Yba.ntmps8
    go_wp2_with (at_builtin; go_must (refine wpList_append_row _ rfl _ _ 22 22 rfl 9 (.string ⟨#[]⟩) 16 Yba.underlying22 info9 rfl _ _ rfl hr0 _ rfl _ _ hsrc ?h1 ?h2 ?_))
    case h1 => first | omega | (simp; omega)
    case h2 => first | omega | (simp; omega)
    intro v1 w1 r1 g1
    have r1' : RowAt w1 9 v1 (L.map sv) := by simpa using r1
    have b1 : Below w.heap.size w w1 := ((Below.refl _ _).alloc (Nat.le_refl _) _).trans (g1.below (by simp) (by simp [Value.ownBlock]))
    have o1 : ∀ k, v1.ownBlock = some k → w.heap.size ≤ k := by
      intro k hk
      rcases g1.own with e | ⟨j, e, hj⟩
      · rw [hk] at e; simp [Value.ownBlock] at e; omega
      · rw [hk] at e; cases e; simp at hj; omega
    clear r1 g1 hr0 hsrc hnil
    go_wp2
    go_ret
    exact ⟨_, rfl, r1', b1, o1⟩

end Go.Proofs.Ybulkbxns
