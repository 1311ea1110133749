/- bytes.Equal, AppendTo; the law LawS3697CAppendTo's walk. -/
import Derived.Test.YbulkbxnsPlace
import Derived.Laws.BytesArg
namespace Go.Proofs.Ybulkbxns
open Go.RowKit Go.Proofs.Own
set_option maxRecDepth 100000
set_option maxHeartbeats 800000
set_option linter.unusedVariables false
set_option linter.unusedSimpArgs false

theorem conv_row {w : World} {v : Value} {bs : List Int} (h : RowAt w 5 v (bs.map bv)) : (convert 32 9 v).run Yba.prog w = .ok (.string (strOfNums bs)) w := by
  rcases h with ⟨rfl, hx⟩ | ⟨g, cap, cur, rfl, hg, hn, hm, hs, ht⟩
  · have hb : bs = [] := by simpa using hx
    subst hb
    exact run_convert_bytes_nil w 32 5 Yba.underlying32 Yba.underlying5 0 0 9 Yba.underlying9
  · simp only [List.length_map] at hn ht ⊢
    refine run_convert_bytes_arg w 32 5 Yba.underlying32 Yba.underlying5 g 0 bs.length cap bs rfl (fun i hi => ?_) 9 Yba.underlying9
    have := RowAt.cell (w := w) (e := 5) (v := .slice (some ⟨g, 0, none⟩) (bs.map bv).length cap) (xs := bs.map bv) (.inr ⟨g, cap, cur, rfl, hg, by simpa using hn, hm, hs, by simpa using ht⟩) rfl (j := i) (u := bv (bs.getD i 0)) (by simp [hi])
    simpa [bv] using this

theorem equal18 (u v : Value) (bs : List Int) (w : World) (hu : RowAt w 5 u (bs.map bv)) (hv : RowAt w 5 v (bs.map bv)) :
    Calls Yba.prog 18 #[u, v] w fun e w' => e = .returned (.bool true) ∧ w' = w := by
  have c1 := conv_row hu
  have c2 := conv_row hv
  clear hu hv
  go_enter Yba.func18, Yba.ntmps18
  go_wp2
  go_ret
  exact ⟨by simp, rfl⟩

theorem src_row {w : World} {v : Value} {bs : List Int} (h : RowAt w 5 v (bs.map bv)) : Src Yba.prog 1 32 v bs.length (bs.map bv) w := by
  rcases h with ⟨rfl, hx⟩ | ⟨g, cap, cur, rfl, hg, hn, hm, hs, ht⟩
  · have hb : bs = [] := by simpa using hx
    subst hb
    exact Src.ofNil w Yba.underlying32 0
  · have := Src.ofSlice (P := Yba.prog) w (size := 1) Yba.underlying32 ⟨g, 0, none⟩ (bs.map bv).length cap (bs.map bv) (by simp) (fun j u hj => by
      rw [Addr.add_lit, Nat.zero_add]
      exact RowAt.cell (w := w) (e := 5) (v := .slice (some ⟨g, 0, none⟩) (bs.map bv).length cap) (xs := bs.map bv) (.inr ⟨g, cap, cur, rfl, hg, hn, hm, hs, ht⟩) rfl hj) (fun u hu => by
      obtain ⟨n, _, rfl⟩ := List.mem_map.1 hu
      rfl)
    simpa using this

theorem appendto19 (E : Nat) (v : Value) (bs : List Int) (w : World) (h : EncIs w E v bs) (hl : bs.length ≤ 549755813888) :
    Calls Yba.prog 19 #[.pointer (some ⟨E, 0, none⟩), .slice none 0 0] w fun e w' => ∃ v', e = .returned v' ∧ RowAt w' 5 v' ((0 :: bs).map bv) ∧ Grow w w' (.slice none 0 0) v' := by
  have c1 : w.cell? ⟨E, 1, none⟩ = some (.slice none 0 0) := by rw [blk_cell h.blk]; rfl
  go_enter Yba.func19, Yba.ntmps19
  go_wp2_with fail
  refine (uv26 0 (by omega) (by omega) (.slice none 0 0) [] w (RowAt.nil _ _) (by simp)).mono ?_
  rintro e w1 ⟨v1, rfl, h1, g1⟩
  have hb1 : w1.heap[E]? = some (.cells (encC v) 40 (0, 0)) := (g1.block E h.lt (by simp [Value.ownBlock])).trans h.blk
  have c11 : w1.cell? ⟨E, 1, none⟩ = some (.slice none 0 0) := by rw [blk_cell hb1]; rfl
  have c13 : w1.cell? ⟨E, 3, none⟩ = some v := by rw [blk_cell hb1]; rfl
  have hr1 : RowAt w1 5 v (bs.map bv) := h.row.kept fun k hk => g1.block k (h.row.lt k hk) (by simp [Value.ownBlock])
  have hsrc := src_row hr1
  clear c1
  obtain ⟨a0, n0, k0, rfl⟩ := hr1.isSlice
  go_wp2
  go_loop [1, 20] (fun b i => b = v1 ∧ i = .int .i64 0) (fun _ _ => 0)
  case atStart => exact ⟨rfl, rfl⟩
  case round =>
    obtain ⟨hb, rfl⟩ := hrel
    subst hb
    go_wp2_with (first | (at_builtin; go_must (refine wpList_append_row _ rfl _ _ 32 32 rfl 5 (.int .u8 0) 1 Yba.underlying32 info5 rfl _ _ rfl h1 _ rfl _ _ hsrc ?h1 ?h2 ?_)) | fail)
    case h1 => first | omega | (simp; omega) | (have := uvI_len 10 0; simp at *; omega)
    case h2 => first | omega | (simp; omega) | (have := uvI_len 10 0; simp at *; omega)
    intro v2 w2 h2 g2
    have g2' := g1.trans g2
    have h2' : RowAt w2 5 v2 ((0 :: bs).map bv) := by simpa [uvI] using h2
    clear h2 g2 g1 h1 hsrc hr1
    go_wp2
    go_ret
    exact ⟨_, rfl, h2', g2'⟩


theorem place15 (boot : ByteArray) (a : Option Addr) (n c : Nat) (dv io : Nat → Int) (w : World) (hn : n ≤ 1024) (hd : DirsAt w a n dv io) (h0 : a = none → n = 0 ∧ c = 0) :
    Calls Yba.prog 15 #[.string boot, .slice a n c] w fun e w' => ∃ a' c', e = .returned (.agg #[.string boot, .slice a' n c']) ∧ Below w.heap.size w w' ∧ DirsAt w' a' n dv io ∧ ∀ x, a' = some x → w.heap.size ≤ x.block := by
  cases a with
  | none =>
    obtain ⟨rfl, rfl⟩ := h0 rfl
    refine (place15_nil boot w).mono ?_
    rintro e w' ⟨rfl, hb⟩
    exact ⟨none, 0, rfl, hb, fun i hi => absurd hi (by omega), fun x hx => by cases hx⟩
  | some a =>
    refine (place15_some boot a n c dv io w hn hd).mono ?_
    rintro e w' ⟨rfl, hb, hd'⟩
    exact ⟨_, _, rfl, hb, hd', fun x hx => by cases hx; show w.heap.size ≤ w.heap.size + 2; omega⟩

theorem DirsAt.below {w w' : World} {a : Option Addr} {n : Nat} {dv io : Nat → Int} (h : DirsAt w a n dv io) (hb : Below w.heap.size w w') : DirsAt w' a n dv io := by
  intro i hi
  obtain ⟨b, off, e, hlt, h1, h2, r⟩ := h i hi
  exact ⟨b, off, e, Nat.lt_of_lt_of_le hlt hb.size, by rw [hb.cell (p := ⟨b, off + i * 2, none⟩) hlt]; exact h1, by rw [hb.cell (p := ⟨b, off + i * 2 + 1, none⟩) hlt]; exact h2, r⟩

theorem EGrow.below {w w' : World} {E : Nat} {v v' : Value} {B : Nat} (h : EGrow w w' E v v') (hB : B ≤ w.heap.size) (hE : B ≤ E) (hv : ∀ k, v.ownBlock = some k → B ≤ k) : Below B w w' :=
  ⟨h.os, h.tape, h.output, h.size, fun k hk => h.block k (by omega) (by omega) (fun e => by have := hv k e.symm; omega)⟩

theorem law6_long (boot : ByteArray) (a : Option Addr) (n c : Nat) (w : World) (h : 1024 < n ∨ 65536 < boot.size) :
    Calls Yba.prog 6 #[.string boot, .slice a n c] w fun e w' => e = .returned (.bool true) ∧ Below w.heap.size w w' := by
  by_cases h0 : (1024 : Int) < n
  · go_enter Yba.func6, Yba.ntmps6
    go_wp2
    go_ret
    exact ⟨rfl, Below.refl _ _⟩
  · have h1 : (65536 : Int) < boot.size := by omega
    go_enter Yba.func6, Yba.ntmps6
    go_wp2
    go_ret
    exact ⟨rfl, Below.refl _ _⟩

theorem law6_short (boot : ByteArray) (a : Option Addr) (n c : Nat) (dv io : Nat → Int) (w : World) (hn : n ≤ 1024) (hb : boot.size ≤ 65536) (hd : DirsAt w a n dv io) (h0 : a = none → n = 0 ∧ c = 0) :
    Calls Yba.prog 6 #[.string boot, .slice a n c] w fun e w' => e = .returned (.bool true) ∧ Below w.heap.size w w' := by
  have k0 : (n : Int) ≤ 1024 := by omega
  have k1 : (boot.size : Int) ≤ 65536 := by omega
  have hbody : ((uvI 10 boot.size ++ strI boot) ++ uvI 10 n ++ flatD dv io n).length ≤ 1048576 := by
    have u1 := uvI_len 10 boot.size
    have u2 := uvI_len 10 n
    have u3 := strI_len boot
    have u4 := flatD_len dv io n
    simp; omega
  obtain ⟨body, ebody⟩ : ∃ body, Hid ((uvI 10 boot.size ++ strI boot) ++ uvI 10 n ++ flatD dv io n = body) := ⟨_, rfl⟩
  rw [ebody.out] at hbody
  go_enter Yba.func6, Yba.ntmps6
  go_wp2_with fail
  have hd1 : DirsAt (w.alloc (.cells #[.bool false, .slice none 0 0, .map none, .slice none 0 0] 40)) a n dv io := hd.below ((Below.refl _ _).alloc (Nat.le_refl _) _)
  refine (place15 boot a n c dv io _ hn hd1 h0).mono ?_
  rintro e w2 ⟨a', c', rfl, hb2, hd2, hx2⟩
  have hsz := hb2.size
  simp at hsz
  have hE2 : EncIs w2 w.heap.size (.slice none 0 0) [] := ⟨(hb2.block _ (by simp)).trans (Go.Deep.blk_alloc_new _ _), RowAt.nil _ _, fun k hk => by simp [Value.ownBlock] at hk⟩
  have B2 : Below w.heap.size w w2 := ((Below.refl _ _).alloc (Nat.le_refl _) _).trans (hb2.mono (by simp))
  clear hd1 hb2
  go_wp2_with fail
  refine (place16 boot a' n c' dv io w.heap.size (.slice none 0 0) [] w2 hE2 (by simp) hb hn hd2 (fun _ x hx => ⟨by have := hx2 x hx; simp at this; omega, by simp [Value.ownBlock]⟩)).mono ?_
  rintro e w3 ⟨rfl, v3, h3, g3⟩
  rw [ebody.out, List.nil_append] at h3
  have B3 : Below w.heap.size w w3 := B2.trans (g3.below (by omega) (Nat.le_refl _) (by simp [Value.ownBlock]))
  have s3 := g3.size
  clear hd2 hx2 hE2 g3
  go_wp2_with fail
  refine (appendto19 w.heap.size v3 body w3 h3 (by omega)).mono ?_
  rintro e w4 ⟨v4, rfl, h4, g4⟩
  have B4 : Below w.heap.size w w4 := B3.trans (g4.below (by omega) (by simp [Value.ownBlock]))
  have s4 := g4.size
  clear h3 g4
  go_wp2_with fail
  have hr5 : RowAt (w4.alloc (.cells #[.int .u8 0] 5)) 5 (.slice (some ⟨w4.heap.size, 0, none⟩) 1 1) (([0] : List Int).map bv) := by
    have := RowAt.made w4 #[.int .u8 0] 5 1 (by simp) (by simp [maxLen])
    simpa [bv] using this
  have hd5 : DirsAt (w4.alloc (.cells #[.int .u8 0] 5)) a n dv io := hd.below (B4.alloc (by omega) _)
  refine (want17 boot a n c dv io _ [0] _ hr5 (by simp) hb hn hd5 ?hne).mono ?_
  case hne =>
    intro hpos x hx
    obtain ⟨b, off, e, hlt, _⟩ := hd 0 hpos
    rw [hx] at e
    cases e
    simp [Value.ownBlock]
    omega
  rintro e w5 ⟨v5, rfl, h5, g5⟩
  rw [ebody.out] at h5
  have B5 : Below w.heap.size w w5 := (B4.alloc (by omega) _).trans (g5.below (by simp; omega) (by simp [Value.ownBlock]; omega))
  have h45 : RowAt w5 5 v4 ((0 :: body).map bv) := (h4.alloc (.cells #[.int .u8 0] 5)).kept fun k hk => g5.block k (by have := h4.lt k hk; simp; omega) (by have := h4.lt k hk; simp [Value.ownBlock]; omega)
  clear hr5 hd5 h4 g5
  go_wp2_with fail
  refine (equal18 v4 v5 (0 :: body) w5 h45 h5).mono ?_
  rintro e w6 ⟨rfl, hw6⟩
  subst hw6
  go_wp2
  go_ret
  exact ⟨rfl, B5⟩

end Go.Proofs.Ybulkbxns
