/- LawS3697CBytes: the walk. -/
import Derived.Test.YbulkbxnsBytes
import Derived.Laws.CopyRow
import Derived.Laws.IdiomCopy
namespace Go.Proofs.Ybulkbxns
open Go.RowKit Go.Proofs.Own
set_option maxRecDepth 100000
set_option maxHeartbeats 1600000
set_option linter.unusedVariables false
set_option linter.unusedSimpArgs false

theorem size5 : (Yba.prog.info? 5).map (·.size) = some 1 := by kernel_rfl

/-- a slice of bytes that came in -/
def BytesAt (w : World) (a : Option Addr) (n : Nat) (ps : Nat → Int) : Prop :=
  ∀ i, i < n → ∃ b off, a = some ⟨b, off, none⟩ ∧ b < w.heap.size ∧ w.cell? ⟨b, off + i, none⟩ = some (.int .u8 (ps i))

theorem BytesAt.below {w w' : World} {a : Option Addr} {n : Nat} {ps : Nat → Int} (h : BytesAt w a n ps) (hb : Below w.heap.size w w') : BytesAt w' a n ps := by
  intro i hi
  obtain ⟨b, off, e, hlt, h1⟩ := h i hi
  exact ⟨b, off, e, Nat.lt_of_lt_of_le hlt hb.size, by rw [hb.cell (p := ⟨b, off + i, none⟩) hlt]; exact h1⟩

def preL (ps : Nat → Int) (n : Nat) : List Int := (List.range n).map ps
theorem preL_len (ps : Nat → Int) (n : Nat) : (preL ps n).length = n := by simp [preL]

theorem src_bytes {w : World} {a : Option Addr} {n c : Nat} {ps : Nat → Int} (h : BytesAt w a n ps) (h0 : a = none → n = 0 ∧ c = 0) : Src Yba.prog 1 32 (.slice a n c) n ((preL ps n).map bv) w := by
  cases a with
  | none =>
    obtain ⟨rfl, rfl⟩ := h0 rfl
    exact Src.ofNil w Yba.underlying32 0
  | some a =>
    refine Src.ofSlice w Yba.underlying32 a n c _ (by simp [preL]) (fun j u hj => ?_) (fun u hu => ?_)
    · have hjn : j < n := by
        rcases Nat.lt_or_ge j n with h | h
        · exact h
        · rw [List.getElem?_eq_none (by simpa [preL] using h)] at hj; cases hj
      obtain ⟨b, off, e, hlt, hc⟩ := h j hjn
      cases e
      rw [Addr.add_lit, hc]
      simpa [preL, hjn, bv] using hj
    · obtain ⟨n, _, rfl⟩ := List.mem_map.1 hu
      rfl

theorem copy5 (a : Addr) (n c : Nat) (ps : Nat → Int) (ty : TypeId) (w : World) (h : BytesAt w (some a) n ps) :
    (Builtin.copy_ #[32, 32] ty #[.slice (some ⟨w.heap.size, 0, none⟩) n n, .slice (some a) n c]).run Yba.prog (w.alloc (.cells (madeCells #[.int .u8 0] n) 5)) = .ok (goInt n) (w.alloc (.cells ((preL ps n).map bv).toArray 5)) := by
  by_cases h0 : n = 0
  · subst h0
    rw [run_copy_none _ 32 32 ty 5 _ _ _ _ _ _ Yba.underlying32 size5 (by simp)]
    simp [madeCells, preL, Array.range_zero']
  · have hcs : ((preL ps n).map bv).length = Nat.min n n := by simp [preL]
    rw [run_copy_row Yba.prog _ 32 32 ty 5 w.heap.size 0 n n a n c (madeCells #[.int .u8 0] n) 5 ((preL ps n).map bv) Yba.underlying32 size5 (Go.Deep.blk_alloc_new _ _) hcs ?_ ?_ ?_]
    · congr 1
      · simp [preL]
      · unfold World.setRow World.alloc
        congr 1
        apply Array.ext_getElem?
        intro k
        simp only [Array.getElem?_modify, Array.getElem?_push]
        by_cases hk : k = w.heap.size
        · subst hk; simp [preL, size_madeCells]
        · simp [hk, Ne.symm hk]
    · intro j u hj
      have hjn : j < n := by
        rcases Nat.lt_or_ge j n with h | h
        · exact h
        · rw [List.getElem?_eq_none (by simpa [preL] using h)] at hj; cases hj
      obtain ⟨b, off, e, hlt, hc⟩ := h j hjn
      cases e
      rw [Addr.add_lit, World.cell?_alloc_lt w _ _ hlt, hc]
      simpa [preL, hjn, bv] using hj
    · simp [size_madeCells, preL]
    · intro u hu
      obtain ⟨n, _, rfl⟩ := List.mem_map.1 hu
      rfl

theorem make0 (n : Nat) (hn : n ≤ 4096) (w : World) : (Instr.makeSlice 32 (.int .i64 0) (.int .i64 (n : Int))).run Yba.prog w =
    .ok (.slice (some ⟨w.heap.size, 0, none⟩) 0 n) (w.alloc (.cells (madeCells #[.int .u8 0] n) 5)) := by
  obtain ⟨i, hi, hzz⟩ := Option.map_eq_some_iff.1 info5
  simp only [Prod.mk.injEq] at hzz
  obtain ⟨hz, hs, hb⟩ := hzz
  have := run_make (P := Yba.prog) w 32 5 i _ Yba.underlying32 hi hz .i64 .i64 0 n (by omega) (by omega) (by rw [hb]; omega) (by omega)
  simpa [hs, Value.cells] using this

theorem law5_long (boot : ByteArray) (a : Option Addr) (n c : Nat) (ap : Option Addr) (np cp : Nat) (w : World) (h : 1024 < n ∨ 4096 < np ∨ 65536 < boot.size) :
    Calls Yba.prog 5 #[.string boot, .slice a n c, .slice ap np cp] w fun e w' => e = .returned (.bool true) ∧ Below w.heap.size w w' := by
  by_cases h0 : (1024 : Int) < n
  · go_enter Yba.func5, Yba.ntmps5
    go_wp2
    go_ret
    exact ⟨rfl, Below.refl _ _⟩
  · by_cases h1 : (4096 : Int) < np
    · go_enter Yba.func5, Yba.ntmps5
      go_wp2
      go_ret
      exact ⟨rfl, Below.refl _ _⟩
    · have h2 : (65536 : Int) < boot.size := by omega
      go_enter Yba.func5, Yba.ntmps5
      go_wp2
      go_ret
      exact ⟨rfl, Below.refl _ _⟩

set_option maxHeartbeats 3200000 in
theorem law5_short_nil (boot : ByteArray) (a : Option Addr) (n c : Nat) (dv io : Nat → Int)   (ps : Nat → Int) (w : World) (hn : n ≤ 1024) (hb : boot.size ≤ 65536) (hnp : 0 ≤ 4096)
    (hd : DirsAt w a n dv io) (h0 : a = none → n = 0 ∧ c = 0) (hp : BytesAt w none 0 ps) :
    Calls Yba.prog 5 #[.string boot, .slice a n c, .slice none 0 0] w fun e w' => e = .returned (.bool true) ∧ Below w.heap.size w w' := by
  have k0 : (n : Int) ≤ 1024 := by omega
  have k1 : (boot.size : Int) ≤ 65536 := by omega
  have hbody : ((uvI 10 boot.size ++ strI boot) ++ uvI 10 n ++ flatD dv io n).length ≤ 1048576 := by
    have u1 := uvI_len 10 boot.size
    have u2 := uvI_len 10 n
    have u3 := strI_len boot
    have u4 := flatD_len dv io n
    simp; omega
  have hpl := preL_len ps 0
  obtain ⟨body, ebody⟩ : ∃ body, Hid ((uvI 10 boot.size ++ strI boot) ++ uvI 10 n ++ flatD dv io n = body) := ⟨_, rfl⟩
  rw [ebody.out] at hbody
  obtain ⟨PL, ePL⟩ : ∃ PL, Hid (preL ps 0 = PL) := ⟨_, rfl⟩
  rw [ePL.out] at hpl
  have HPL : Hid (PL.length = 0) := hpl
  clear hpl
  have hnil := fun w => run_neq_slice_nil_any (P := Yba.prog) w 32 5 none 0 0 0 0 Yba.underlying32
  have hnm := fun w => run_neq_map_nil (P := Yba.prog) w 38 9 44 none Yba.underlying38
  have hmk0 : ∀ w, (Instr.makeSlice 32 (.int .i64 0) (.int .i64 0)).run Yba.prog w = .ok (.slice (some ⟨w.heap.size, 0, none⟩) 0 0) (w.alloc (.cells (madeCells #[.int .u8 0] 0) 5)) := fun w => by simpa using make0 0 (by omega) w
  go_enter Yba.func5, Yba.ntmps5
  go_wp2_with fail
  refine (place15 boot a n c dv io w hn hd h0).mono ?_
  rintro e w2 ⟨a', c', rfl, B2, hd2, hx2⟩
  have s2 := B2.size
  have pl0 : PL = [] := List.eq_nil_of_length_eq_zero HPL.out
  have hE : EncIs ((w2.alloc (.cells #[.string boot, .slice a' n c'] 35)).alloc (.cells #[.bool false, .slice none 0 0, .map none, .slice none 0 0] 40)) (w2.heap.size + 1) (.slice none 0 0 : Value) PL := by
    rw [pl0]
    refine ⟨?_, RowAt.nil _ _, by simp [Value.ownBlock]⟩
    have := Go.Deep.blk_alloc_new (w2.alloc (.cells #[.string boot, .slice a' n c'] 35)) (.cells #[.bool false, .slice none 0 0, .map none, .slice none 0 0] 40)
    simpa [encC] using this
  clear pl0
  have hPb : ((w2.alloc (.cells #[.string boot, .slice a' n c'] 35)).alloc (.cells #[.bool false, .slice none 0 0, .map none, .slice none 0 0] 40)).heap[w2.heap.size]? = some (.cells #[.string boot, .slice a' n c'] 35 (0, 0)) := (Go.Deep.blk_alloc_lt _ _ _ (by simp)).trans (Go.Deep.blk_alloc_new _ _)
  have BW : Below w.heap.size w ((w2.alloc (.cells #[.string boot, .slice a' n c'] 35)).alloc (.cells #[.bool false, .slice none 0 0, .map none, .slice none 0 0] 40)) := (B2.alloc (by omega) _).alloc (by simp; omega) _
  have hda : DirsAt ((w2.alloc (.cells #[.string boot, .slice a' n c'] 35)).alloc (.cells #[.bool false, .slice none 0 0, .map none, .slice none 0 0] 40)) a' n dv io := (hd2.below ((Below.refl _ _).alloc (Nat.le_refl _) _)).below ((Below.refl _ _).alloc (Nat.le_refl _) _)
  have vB : ∀ k, (.slice none 0 0 : Value).ownBlock = some k → w2.heap.size < k := by simp [Value.ownBlock]
  go_wp2_with fail
  refine (place16 boot a' n c' dv io (w2.heap.size + 1) (.slice none 0 0 : Value) PL _ hE (by have := HPL.out; omega) hb hn hda ?hne).mono ?_
  case hne =>
    intro hpos x hx
    obtain ⟨b, off, e, hlt, _⟩ := hd2 0 hpos
    rw [hx] at e
    cases e
    exact ⟨by show b ≠ _; omega, fun hx => by have := vB _ hx.symm; simp only at this hlt; omega⟩
  rintro e w4 ⟨rfl, v4, h4, g4⟩
  rw [ebody.out] at h4

  have s4 := g4.size
  have hlE := hE.lt
  have hPb4 : w4.heap[w2.heap.size]? = some (.cells #[.string boot, .slice a' n c'] 35 (0, 0)) := (g4.block _ (by omega) (by omega) (fun hx => by have := vB _ hx.symm; omega)).trans hPb
  have hda4 : DirsAt w4 a' n dv io := hda.egrow g4 (by
    intro hpos x hx
    obtain ⟨b, off, e, hlt, _⟩ := hd2 0 hpos
    rw [hx] at e
    cases e
    exact ⟨by show b ≠ _; omega, fun hx => by have := vB _ hx.symm; simp only at this hlt; omega⟩)
  have B4 : Below w.heap.size w w4 := BW.trans (g4.below (by omega) (by omega) (fun k hk => by have := vB k hk; omega))
  have hpp4 : BytesAt w4 none 0 ps := hp.below B4
  clear g4 hE hPb hda
  go_wp2_with (first | (at_builtin; go_must (refine wpList_append_row _ rfl _ _ 32 32 rfl 5 (.int .u8 0) 1 Yba.underlying32 info5 rfl _ [] rfl ?hrow _ rfl 0 (PL.map bv) ?hsrc ?h1 ?h2 ?_)) | fail)
  case hrow =>
    have := RowAt.made w4 (madeCells #[.int .u8 0] 0) 5 0 (by simp) (by rw [size_madeCells]; unfold maxLen; omega)
    rw [size_madeCells] at this
    exact this
  case hsrc =>
    have := src_bytes (c := 0) (hpp4.below ((Below.refl _ _).alloc (Nat.le_refl _) (.cells (madeCells #[.int .u8 0] 0) 5))) (fun _ => ⟨rfl, rfl⟩)
    rw [ePL.out] at this
    exact this
  case h1 => first | omega | (simp; done) | (simp; omega)
  case h2 => first | omega | (simp; done) | (simp; omega)
  intro v5 w5 h5 g5
  have s5 := g5.size
  simp at s5
  have h5' : RowAt w5 5 v5 (PL.map bv) := by simpa using h5
  have fr5 : ∀ k, k < w4.heap.size → w5.heap[k]? = w4.heap[k]? := fun k hk => (g5.block k (by simp; omega) (by simp [Value.ownBlock]; omega)).trans (Go.Deep.blk_alloc_lt _ _ _ hk)
  have o5 : ∀ k, v5.ownBlock = some k → w4.heap.size ≤ k := by
    intro k hk
    rcases g5.own with e | ⟨j, e, hj⟩
    · rw [hk] at e; simp [Value.ownBlock] at e; omega
    · rw [hk] at e; cases e; simp at hj; omega
  have B45 : Below w4.heap.size w4 w5 := ⟨g5.os, g5.tape, g5.output, by omega, fr5⟩
  have B5 : Below w.heap.size w w5 := B4.trans (B45.mono (by omega))
  clear h5 g5 hmk0
  go_wp2_with fail
  refine (want17 boot a n c dv io v5 PL w5 h5' (by have := HPL.out; omega) hb hn (hd.below B5) ?hne2).mono ?_
  case hne2 =>
    intro hpos x hx
    obtain ⟨b, off, e, hlt, _⟩ := hd 0 hpos
    rw [hx] at e
    cases e
    intro hx
    have := o5 _ hx.symm
    simp only at this hlt
    omega
  rintro e w6 ⟨v6, rfl, h6, g6⟩
  rw [ebody.out] at h6
  have s6 := g6.size
  have fr6 : ∀ k, k < w4.heap.size → w6.heap[k]? = w4.heap[k]? := fun k hk => (g6.block k (by omega) (fun hx => by have := o5 k hx.symm; omega)).trans (fr5 k hk)
  have B46 : Below w4.heap.size w4 w6 := ⟨g6.os.trans B45.os, g6.tape.trans B45.tape, g6.output.trans B45.output, by omega, fr6⟩
  have B6 : Below w.heap.size w w6 := B4.trans (B46.mono (by omega))
  have h46 : EncIs w6 (w2.heap.size + 1) v4 (PL ++ body) := ⟨(fr6 _ h4.lt).trans h4.blk, h4.row.kept fun k hk => fr6 k (h4.row.lt k hk), h4.ne⟩
  have hPb6 : w6.heap[w2.heap.size]? = some (.cells #[.string boot, .slice a' n c'] 35 (0, 0)) := (fr6 _ (by omega)).trans hPb4
  have hda6 : DirsAt w6 a' n dv io := hda4.below B46
  have hd6 : DirsAt w6 a n dv io := hd.below B6
  have e0 : w6.cell? ⟨w2.heap.size + 1, 0, none⟩ = some (.bool false) := by rw [blk_cell h46.blk]; rfl
  have e1 : w6.cell? ⟨w2.heap.size + 1, 1, none⟩ = some (.slice none 0 0) := by rw [blk_cell h46.blk]; rfl
  have e2 : w6.cell? ⟨w2.heap.size + 1, 2, none⟩ = some (.map none) := by rw [blk_cell h46.blk]; rfl
  have e3 : w6.cell? ⟨w2.heap.size + 1, 3, none⟩ = some v4 := by rw [blk_cell h46.blk]; rfl
  have q0 : w6.cell? ⟨w2.heap.size, 0, none⟩ = some (.string boot) := by rw [blk_cell hPb6]; rfl
  have q1 : w6.cell? ⟨w2.heap.size, 1, none⟩ = some (.slice a' n c') := by rw [blk_cell hPb6]; rfl
  obtain ⟨a4, n4, c4, rfl⟩ := h46.row.isSlice
  have hrow4 := h46.row
  clear hPb6 hPb4 hda4 h4 g6 fr5 fr6 B45 o5 h5' hpp4 hd2 hd
  go_wp2_with fail
  refine (equal18 _ v6 (PL ++ body) w6 hrow4 h6).mono ?_
  rintro e w7 ⟨rfl, hw7⟩
  subst hw7
  clear hrow4 h6 h46 e3
  go_wp2
  go_loopw [11] (fun i wr => ∃ k : Nat, k ≤ n ∧ i = .int .i64 k ∧ ∃ q, wr = w7.drewN q) (fun i _ => n - (intOf i).toNat)
  case atStart => exact ⟨0, Nat.zero_le _, rfl, 0, rfl⟩
  case round =>
    obtain ⟨k, hk, rfl, q, rfl⟩ := hrel
    by_cases hlt : k < n
    · obtain ⟨b, off, rfl, hb1, hc1, hc2, _⟩ := hd6 k hlt
      obtain ⟨b', off', rfl, hb1', hc1', hc2', _⟩ := hda6 k hlt
      have hlt' : (k : Int) < (n : Int) := by omega
      clear hd6 hda6
      go_wp2
      go_quiet (fail)
      go_wp2
      go_roundw
      case rel => exact ⟨k + 1, by omega, by go_num, _, rfl⟩
      case measure => simp [intOf]; omega
    · go_wp2
      go_ret
      exact ⟨rfl, below_drewN B6 _⟩

set_option maxHeartbeats 3200000 in
theorem law5_short_some (boot : ByteArray) (a : Option Addr) (n c : Nat) (dv io : Nat → Int) (ap : Addr) (np cp : Nat) (ps : Nat → Int) (w : World) (hn : n ≤ 1024) (hb : boot.size ≤ 65536) (hnp : np ≤ 4096)
    (hd : DirsAt w a n dv io) (h0 : a = none → n = 0 ∧ c = 0) (hp : BytesAt w (some ap) np ps) :
    Calls Yba.prog 5 #[.string boot, .slice a n c, .slice (some ap) np cp] w fun e w' => e = .returned (.bool true) ∧ Below w.heap.size w w' := by
  have k0 : (n : Int) ≤ 1024 := by omega
  have k1 : (boot.size : Int) ≤ 65536 := by omega
  have hbody : ((uvI 10 boot.size ++ strI boot) ++ uvI 10 n ++ flatD dv io n).length ≤ 1048576 := by
    have u1 := uvI_len 10 boot.size
    have u2 := uvI_len 10 n
    have u3 := strI_len boot
    have u4 := flatD_len dv io n
    simp; omega
  have hpl := preL_len ps np
  obtain ⟨body, ebody⟩ : ∃ body, Hid ((uvI 10 boot.size ++ strI boot) ++ uvI 10 n ++ flatD dv io n = body) := ⟨_, rfl⟩
  rw [ebody.out] at hbody
  obtain ⟨PL, ePL⟩ : ∃ PL, Hid (preL ps np = PL) := ⟨_, rfl⟩
  rw [ePL.out] at hpl
  have HPL : Hid (PL.length = np) := hpl
  clear hpl
  have hnil := fun w => run_neq_slice_nil_any (P := Yba.prog) w 32 5 (some ap) np cp 0 0 Yba.underlying32
  have hnm := fun w => run_neq_map_nil (P := Yba.prog) w 38 9 44 none Yba.underlying38
  have k2 : (np : Int) ≤ 4096 := by omega
  have hmk0 := make0 np hnp
  have hmk1 := run_make_row' (P := Yba.prog) 32 5 (.int .u8 0) 1 Yba.underlying32 info5 rfl .i64 .i64 np (by omega) (by omega)
  go_enter Yba.func5, Yba.ntmps5
  go_wp2_with fail
  refine (place15 boot a n c dv io w hn hd h0).mono ?_
  rintro e w2 ⟨a', c', rfl, B2, hd2, hx2⟩
  have s2 := B2.size
  have hcp : ∀ ty, (Builtin.copy_ #[32, 32] ty #[.slice (some ⟨w2.heap.size + 1, 0, none⟩) np np, .slice (some ap) np cp]).run Yba.prog ((w2.alloc (.cells #[.string boot, .slice a' n c'] 35)).alloc (.cells (madeCells #[.int .u8 0] np) 5)) = .ok (goInt np) ((w2.alloc (.cells #[.string boot, .slice a' n c'] 35)).alloc (.cells ((preL ps np).map bv).toArray 5)) := fun ty => by
    have := copy5 ap np cp ps ty (w2.alloc (.cells #[.string boot, .slice a' n c'] 35)) ((hp.below B2).below ((Below.refl _ _).alloc (Nat.le_refl _) _))
    simpa using this
  rw [ePL.out] at hcp
  have hE : EncIs (((w2.alloc (.cells #[.string boot, .slice a' n c'] 35)).alloc (.cells (PL.map bv).toArray 5)).alloc (.cells #[.bool false, .slice none 0 0, .map none, .slice (some ⟨w2.heap.size + 1, 0, none⟩) np np] 40)) (w2.heap.size + 1 + 1) (.slice (some ⟨w2.heap.size + 1, 0, none⟩) np np : Value) PL := by
    refine ⟨?_, ?_, by simp [Value.ownBlock]⟩
    · have := Go.Deep.blk_alloc_new ((w2.alloc (.cells #[.string boot, .slice a' n c'] 35)).alloc (.cells (PL.map bv).toArray 5)) (.cells #[.bool false, .slice none 0 0, .map none, .slice (some ⟨w2.heap.size + 1, 0, none⟩) np np] 40)
      simpa [encC] using this
    · have := (RowAt.made (w2.alloc (.cells #[.string boot, .slice a' n c'] 35)) (PL.map bv).toArray 5 np (by have := HPL.out; simp; omega) (by have := HPL.out; simp; unfold maxLen; omega)).alloc (.cells #[.bool false, .slice none 0 0, .map none, .slice (some ⟨w2.heap.size + 1, 0, none⟩) np np] 40)
      have hl := HPL.out
      have e1 : (PL.map bv).toArray.size = np := by simpa using hl
      have e2 : List.take np (PL.map bv) = PL.map bv := List.take_of_length_le (by simp; omega)
      rw [e1] at this
      simpa [e2] using this
  have hPb : (((w2.alloc (.cells #[.string boot, .slice a' n c'] 35)).alloc (.cells (PL.map bv).toArray 5)).alloc (.cells #[.bool false, .slice none 0 0, .map none, .slice (some ⟨w2.heap.size + 1, 0, none⟩) np np] 40)).heap[w2.heap.size]? = some (.cells #[.string boot, .slice a' n c'] 35 (0, 0)) := (Go.Deep.blk_alloc_lt _ _ _ (by simp; omega)).trans ((Go.Deep.blk_alloc_lt _ _ _ (by simp)).trans (Go.Deep.blk_alloc_new _ _))
  have BW : Below w.heap.size w (((w2.alloc (.cells #[.string boot, .slice a' n c'] 35)).alloc (.cells (PL.map bv).toArray 5)).alloc (.cells #[.bool false, .slice none 0 0, .map none, .slice (some ⟨w2.heap.size + 1, 0, none⟩) np np] 40)) := ((B2.alloc (by omega) _).alloc (by simp; omega) _).alloc (by simp; omega) _
  have hda : DirsAt (((w2.alloc (.cells #[.string boot, .slice a' n c'] 35)).alloc (.cells (PL.map bv).toArray 5)).alloc (.cells #[.bool false, .slice none 0 0, .map none, .slice (some ⟨w2.heap.size + 1, 0, none⟩) np np] 40)) a' n dv io := ((hd2.below ((Below.refl _ _).alloc (Nat.le_refl _) _)).below ((Below.refl _ _).alloc (Nat.le_refl _) _)).below ((Below.refl _ _).alloc (Nat.le_refl _) _)
  have vB : ∀ k, (.slice (some ⟨w2.heap.size + 1, 0, none⟩) np np : Value).ownBlock = some k → w2.heap.size < k := by simp [Value.ownBlock]
  go_wp2_with fail
  refine (place16 boot a' n c' dv io (w2.heap.size + 1 + 1) (.slice (some ⟨w2.heap.size + 1, 0, none⟩) np np : Value) PL _ hE (by have := HPL.out; omega) hb hn hda ?hne).mono ?_
  case hne =>
    intro hpos x hx
    obtain ⟨b, off, e, hlt, _⟩ := hd2 0 hpos
    rw [hx] at e
    cases e
    exact ⟨by show b ≠ _; omega, fun hx => by have := vB _ hx.symm; simp only at this hlt; omega⟩
  rintro e w4 ⟨rfl, v4, h4, g4⟩
  rw [ebody.out] at h4

  have s4 := g4.size
  have hlE := hE.lt
  have hPb4 : w4.heap[w2.heap.size]? = some (.cells #[.string boot, .slice a' n c'] 35 (0, 0)) := (g4.block _ (by omega) (by omega) (fun hx => by have := vB _ hx.symm; omega)).trans hPb
  have hda4 : DirsAt w4 a' n dv io := hda.egrow g4 (by
    intro hpos x hx
    obtain ⟨b, off, e, hlt, _⟩ := hd2 0 hpos
    rw [hx] at e
    cases e
    exact ⟨by show b ≠ _; omega, fun hx => by have := vB _ hx.symm; simp only at this hlt; omega⟩)
  have B4 : Below w.heap.size w w4 := BW.trans (g4.below (by omega) (by omega) (fun k hk => by have := vB k hk; omega))
  have hpp4 : BytesAt w4 (some ap) np ps := hp.below B4
  clear g4 hE hPb hda
  go_wp2_with (first | (at_builtin; go_must (refine wpList_append_row _ rfl _ _ 32 32 rfl 5 (.int .u8 0) 1 Yba.underlying32 info5 rfl _ [] rfl ?hrow _ rfl np (PL.map bv) ?hsrc ?h1 ?h2 ?_)) | fail)
  case hrow =>
    have := RowAt.made w4 (madeCells #[.int .u8 0] np) 5 0 (by simp) (by rw [size_madeCells]; unfold maxLen; omega)
    rw [size_madeCells] at this
    exact this
  case hsrc =>
    have := src_bytes (c := cp) (hpp4.below ((Below.refl _ _).alloc (Nat.le_refl _) (.cells (madeCells #[.int .u8 0] np) 5))) (fun hx => by cases hx)
    rw [ePL.out] at this
    exact this
  case h1 => first | omega | (simp; done) | (simp; omega)
  case h2 => first | omega | (simp; done) | (simp; omega)
  intro v5 w5 h5 g5
  have s5 := g5.size
  simp at s5
  have h5' : RowAt w5 5 v5 (PL.map bv) := by simpa using h5
  have fr5 : ∀ k, k < w4.heap.size → w5.heap[k]? = w4.heap[k]? := fun k hk => (g5.block k (by simp; omega) (by simp [Value.ownBlock]; omega)).trans (Go.Deep.blk_alloc_lt _ _ _ hk)
  have o5 : ∀ k, v5.ownBlock = some k → w4.heap.size ≤ k := by
    intro k hk
    rcases g5.own with e | ⟨j, e, hj⟩
    · rw [hk] at e; simp [Value.ownBlock] at e; omega
    · rw [hk] at e; cases e; simp at hj; omega
  have B45 : Below w4.heap.size w4 w5 := ⟨g5.os, g5.tape, g5.output, by omega, fr5⟩
  have B5 : Below w.heap.size w w5 := B4.trans (B45.mono (by omega))
  clear h5 g5 hmk0
  go_wp2_with fail
  refine (want17 boot a n c dv io v5 PL w5 h5' (by have := HPL.out; omega) hb hn (hd.below B5) ?hne2).mono ?_
  case hne2 =>
    intro hpos x hx
    obtain ⟨b, off, e, hlt, _⟩ := hd 0 hpos
    rw [hx] at e
    cases e
    intro hx
    have := o5 _ hx.symm
    simp only at this hlt
    omega
  rintro e w6 ⟨v6, rfl, h6, g6⟩
  rw [ebody.out] at h6
  have s6 := g6.size
  have fr6 : ∀ k, k < w4.heap.size → w6.heap[k]? = w4.heap[k]? := fun k hk => (g6.block k (by omega) (fun hx => by have := o5 k hx.symm; omega)).trans (fr5 k hk)
  have B46 : Below w4.heap.size w4 w6 := ⟨g6.os.trans B45.os, g6.tape.trans B45.tape, g6.output.trans B45.output, by omega, fr6⟩
  have B6 : Below w.heap.size w w6 := B4.trans (B46.mono (by omega))
  have h46 : EncIs w6 (w2.heap.size + 1 + 1) v4 (PL ++ body) := ⟨(fr6 _ h4.lt).trans h4.blk, h4.row.kept fun k hk => fr6 k (h4.row.lt k hk), h4.ne⟩
  have hPb6 : w6.heap[w2.heap.size]? = some (.cells #[.string boot, .slice a' n c'] 35 (0, 0)) := (fr6 _ (by omega)).trans hPb4
  have hda6 : DirsAt w6 a' n dv io := hda4.below B46
  have hd6 : DirsAt w6 a n dv io := hd.below B6
  have e0 : w6.cell? ⟨w2.heap.size + 1 + 1, 0, none⟩ = some (.bool false) := by rw [blk_cell h46.blk]; rfl
  have e1 : w6.cell? ⟨w2.heap.size + 1 + 1, 1, none⟩ = some (.slice none 0 0) := by rw [blk_cell h46.blk]; rfl
  have e2 : w6.cell? ⟨w2.heap.size + 1 + 1, 2, none⟩ = some (.map none) := by rw [blk_cell h46.blk]; rfl
  have e3 : w6.cell? ⟨w2.heap.size + 1 + 1, 3, none⟩ = some v4 := by rw [blk_cell h46.blk]; rfl
  have q0 : w6.cell? ⟨w2.heap.size, 0, none⟩ = some (.string boot) := by rw [blk_cell hPb6]; rfl
  have q1 : w6.cell? ⟨w2.heap.size, 1, none⟩ = some (.slice a' n c') := by rw [blk_cell hPb6]; rfl
  obtain ⟨a4, n4, c4, rfl⟩ := h46.row.isSlice
  have hrow4 := h46.row
  clear hPb6 hPb4 hda4 h4 g6 fr5 fr6 B45 o5 h5' hpp4 hd2 hd
  go_wp2_with fail
  refine (equal18 _ v6 (PL ++ body) w6 hrow4 h6).mono ?_
  rintro e w7 ⟨rfl, hw7⟩
  subst hw7
  clear hrow4 h6 h46 e3
  go_wp2
  go_loopw [11] (fun i wr => ∃ k : Nat, k ≤ n ∧ i = .int .i64 k ∧ ∃ q, wr = w7.drewN q) (fun i _ => n - (intOf i).toNat)
  case atStart => exact ⟨0, Nat.zero_le _, rfl, 0, rfl⟩
  case round =>
    obtain ⟨k, hk, rfl, q, rfl⟩ := hrel
    by_cases hlt : k < n
    · obtain ⟨b, off, rfl, hb1, hc1, hc2, _⟩ := hd6 k hlt
      obtain ⟨b', off', rfl, hb1', hc1', hc2', _⟩ := hda6 k hlt
      have hlt' : (k : Int) < (n : Int) := by omega
      clear hd6 hda6
      go_wp2
      go_quiet (fail)
      go_wp2
      go_roundw
      case rel => exact ⟨k + 1, by omega, by go_num, _, rfl⟩
      case measure => simp [intOf]; omega
    · go_wp2
      go_ret
      exact ⟨rfl, below_drewN B6 _⟩
end Go.Proofs.Ybulkbxns
