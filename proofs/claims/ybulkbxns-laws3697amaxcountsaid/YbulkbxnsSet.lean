/- LawS3697ASetUnion: the walk. -/
import Derived.Test.YbulkbxnsConcat
namespace Go.Proofs.Ybulkbxns
open Go.RowKit Go.Proofs.Own Go.Proofs.UnionMath
set_option maxRecDepth 100000
set_option maxHeartbeats 800000
set_option linter.unusedVariables false
set_option linter.unusedSimpArgs false

/-- a list sorted and compacted -/
def ded (L : List S) : List S := Lib.compactUpTo (srt L).toArray (srt L).length
theorem ded_strict (L : List S) : (ded L).Pairwise (· < ·) := (compact_strict (srt L) (srt_sorted L) _ (Nat.le_refl _)).1
theorem ded_mem (L : List S) (s : S) : s ∈ ded L ↔ s ∈ L := by
  have := (compact_strict (srt L) (srt_sorted L) _ (Nat.le_refl _)).2 s
  rw [List.take_length] at this
  exact this.trans (srt_mem L s)
theorem ded_len (L : List S) : (ded L).length ≤ L.length := by
  unfold ded Lib.compactUpTo
  rw [List.length_map]
  refine Nat.le_trans (List.length_filter_le _ _) ?_
  simp [srt_len]

theorem union_law (A B : List S) (hA : A.Pairwise (· < ·)) (hB : B.Pairwise (· < ·)) : mg (A.length + B.length) A B = ded (A ++ B) := by
  obtain ⟨h1, h2⟩ := mg_strict (A.length + B.length) A B (Nat.le_refl _) hA hB
  exact strict_unique h1 (ded_strict _) fun s => by rw [h2 s, ded_mem, List.mem_append]

theorem equal13' (a1 : Option Addr) (n1 c1 : Nat) (a2 : Option Addr) (n2 c2 : Nat) (L : List S) (w : World) (h1 : View w a1 n1 c1 L) (h2 : View w a2 n2 c2 L) :
    Calls Yba.prog 13 #[.slice a1 n1 c1, .slice a2 n2 c2] w fun e w' => e = .returned (.bool true) ∧ ∃ q, w' = w.drewN q := by
  obtain rfl := h1.len.out
  obtain rfl := h2.len.out
  exact equal13 a1 c1 a2 c2 L w (by have := h1.le; omega) h1.at_ h2.at_

theorem View.drewN {w : World} {a : Option Addr} {n c : Nat} {L : List S} (h : View w a n c L) (q : Nat) : View (w.drewN q) a n c L := ⟨h.len, h.le, h.at_⟩

theorem clone8' (a : Option Addr) (n c : Nat) (L : List S) (w : World) (h : View w a n c L) (h0 : a = none → L = [] ∧ c = 0) :
    Calls Yba.prog 8 #[.slice a n c] w fun e w' => ∃ v', e = .returned v' ∧ RowAt w' 9 v' (L.map sv) ∧ Below w.heap.size w w' ∧ (∀ k, v'.ownBlock = some k → w.heap.size ≤ k) := by
  obtain rfl := h.len.out
  exact clone8 a c L w h.le h.at_ h0

theorem set_long (a1 : Option Addr) (n1 c1 : Nat) (a2 : Option Addr) (n2 c2 : Nat) (w : World) (h : 1024 < n1 ∨ 1024 < n2) :
    Calls Yba.prog 3 #[.slice a1 n1 c1, .slice a2 n2 c2] w fun e w' => e = .returned (.bool true) ∧ Below w.heap.size w w' := by
  by_cases h0 : (1024 : Int) < n1
  · go_enter Yba.func3, Yba.ntmps3
    go_wp2
    go_ret
    exact ⟨rfl, Below.refl _ _⟩
  · have h1 : (1024 : Int) < n2 := by omega
    go_enter Yba.func3, Yba.ntmps3
    go_wp2
    go_ret
    exact ⟨rfl, Below.refl _ _⟩

/-- a slice of the call's own, looked at -/
theorem look {w : World} {v : Value} {L : List S} (h : RowAt w 9 v (L.map sv)) (hl : L.length ≤ 4096) : ∃ a n c, v = .slice a n c ∧ n ≤ c ∧ View w a n c L ∧ (a = none → L = [] ∧ c = 0) := by
  obtain ⟨a, n, c, e, h1, h2, h3, h4, _⟩ := RowAt.view h
  exact ⟨a, n, c, e, h2, ⟨h1, by have := h1.out; omega, h3⟩, h4⟩

theorem set_short (a1 : Option Addr) (m1 c1 : Nat) (A : List S) (a2 : Option Addr) (m2 c2 : Nat) (B : List S) (w : World) (hm1 : m1 ≤ 1024) (hm2 : m2 ≤ 1024) (em1 : Hid (m1 = A.length)) (em2 : Hid (m2 = B.length)) (hA : StrsAt w a1 A) (hB : StrsAt w a2 B)
    (hA0 : a1 = none → A = [] ∧ c1 = 0) (hB0 : a2 = none → B = [] ∧ c2 = 0) :
    Calls Yba.prog 3 #[.slice a1 m1 c1, .slice a2 m2 c2] w fun e w' => e = .returned (.bool true) ∧ Below w.heap.size w w' := by
  have k1 : (m1 : Int) ≤ 1024 := by omega
  have k2 : (m2 : Int) ≤ 1024 := by omega
  obtain ⟨SA, eSA⟩ : ∃ SA, Hid (ded A = SA) := ⟨_, rfl⟩
  obtain ⟨SB, eSB⟩ : ∃ SB, Hid (ded B = SB) := ⟨_, rfl⟩
  have lA : SA.length ≤ 1024 := by rw [← eSA.out]; have := ded_len A; have := em1.out; omega
  have lB : SB.length ≤ 1024 := by rw [← eSB.out]; have := ded_len B; have := em2.out; omega
  have sA : SA.Pairwise (· < ·) := by rw [← eSA.out]; exact ded_strict A
  have sB : SB.Pairwise (· < ·) := by rw [← eSB.out]; exact ded_strict B
  obtain ⟨U, eU⟩ : ∃ U, Hid (mg (SA.length + SB.length) SA SB = U) := ⟨_, rfl⟩
  have eD : Hid (ded (SA ++ SB) = U) := by rw [← union_law SA SB sA sB]; exact eU
  have lU : U.length ≤ 2048 := by rw [← eU.out]; have := mg_len (SA.length + SB.length) SA SB; omega
  clear sA sB
  go_enter Yba.func3, Yba.ntmps3
  go_wp2_with fail
  have c7a := sorted7_true a1 c1 A w (by have := em1.out; omega) hA hA0
  rw [← em1.out, show Lib.compactUpTo (srt A).toArray (srt A).length = SA from eSA.out] at c7a
  refine c7a.mono ?_
  clear c7a
  rintro e w1 ⟨v1, rfl, r1, b1, o1⟩
  go_wp2_with fail
  have c7b := sorted7_true a2 c2 B w1 (by have := em2.out; omega) (hB.below b1) hB0
  rw [← em2.out, show Lib.compactUpTo (srt B).toArray (srt B).length = SB from eSB.out] at c7b
  refine c7b.mono ?_
  clear c7b
  rintro e w2 ⟨v2, rfl, r2, b2, o2⟩
  have r1' : RowAt w2 9 v1 (SA.map sv) := r1.kept fun k hk => b2.block k (r1.lt k hk)
  have B2 : Below w.heap.size w w2 := b1.trans (b2.mono b1.size)
  clear r1 b1 b2 o2 o1 hA hB hA0 hB0
  obtain ⟨x1, n1, d1, rfl, hd1, V1, z1⟩ := look r1' (by omega)
  obtain ⟨x2, n2, d2, rfl, hd2, V2, z2⟩ := look r2 (by omega)
  clear r1' r2
  go_wp2_with fail
  refine (clone8' x1 n1 d1 SA w2 V1 z1).mono ?_
  rintro e w3 ⟨v3, rfl, r3, b3, o3⟩
  have V1 := V1.below b3
  have V2 := V2.below b3
  have B3 : Below w.heap.size w w3 := B2.trans (b3.mono B2.size)
  obtain ⟨x3, n3, d3, rfl, hd3, V3, z3⟩ := look r3 (by omega)
  clear r3 b3 o3 B2
  go_wp2_with fail
  refine (clone8' x2 n2 d2 SB w3 V2 z2).mono ?_
  rintro e w4 ⟨v4, rfl, r4, b4, o4⟩
  have V1 := V1.below b4
  have V2 := V2.below b4
  have V3 := V3.below b4
  have B4 : Below w.heap.size w w4 := B3.trans (b4.mono B3.size)
  obtain ⟨x4, n4, d4, rfl, hd4, V4, z4⟩ := look r4 (by omega)
  clear r4 b4 o4 B3
  go_wp2_with fail
  have c9 := union9' x1 n1 d1 SA x2 n2 d2 SB w4 V1.len V2.len (by have := V1.len.out; omega) (by have := V2.len.out; omega) V1.at_ V2.at_ hd1 hd2
  rw [eU.out] at c9
  refine c9.mono ?_
  clear c9
  rintro e w5 ⟨v5, rfl, r5, b5, o5⟩
  have V1 := V1.below b5
  have V2 := V2.below b5
  have V3 := V3.below b5
  have V4 := V4.below b5
  have B5 : Below w.heap.size w w5 := B4.trans (b5.mono B4.size)
  obtain ⟨x5, n5, d5, rfl, hd5, V5, z5⟩ := look r5 (by omega)
  clear r5 b5 o5 B4
  go_wp2_with fail
  have wb : Below w5.heap.size w5 (w5.alloc (.cells #[.slice x3 n3 d3, .slice x4 n4 d4] 22)) := (Below.refl _ _).alloc (Nat.le_refl _) _
  have V1 := V1.below wb
  have V2 := V2.below wb
  have V3 := V3.below wb
  have V4 := V4.below wb
  have V5 := V5.below wb
  have B6 : Below w.heap.size w (w5.alloc (.cells #[.slice x3 n3 d3, .slice x4 n4 d4] 22)) := B5.alloc B5.size _
  have q0 : (w5.alloc (.cells #[.slice x3 n3 d3, .slice x4 n4 d4] 22)).cell? ⟨w5.heap.size, 0, none⟩ = some (.slice x3 n3 d3) := by simp
  have q1 : (w5.alloc (.cells #[.slice x3 n3 d3, .slice x4 n4 d4] 22)).cell? ⟨w5.heap.size, 1, none⟩ = some (.slice x4 n4 d4) := by simp
  have hg6 : w5.heap.size < (w5.alloc (.cells #[.slice x3 n3 d3, .slice x4 n4 d4] 22)).heap.size := by simp
  generalize w5.alloc (.cells #[.slice x3 n3 d3, .slice x4 n4 d4] 22) = w6 at V1 V2 V3 V4 V5 B6 q0 q1 hg6 ⊢
  have c10 := concat10 w5.heap.size (fun k => if k = 0 then [] else if k = 1 then SA else SA ++ SB) w6 rfl (by
      intro k hk
      split
      · simp
      · split
        · omega
        · simp; omega) (by
      intro k hk
      match k, hk with
      | 0, _ => exact ⟨x3, n3, d3, SA, q0, V3, z3, by simp⟩
      | 1, _ => exact ⟨x4, n4, d4, SB, q1, V4, z4, by simp⟩) hg6
  rw [show (if (2 : Nat) = 0 then ([] : List S) else if (2 : Nat) = 1 then SA else SA ++ SB) = SA ++ SB from rfl] at c10
  refine c10.mono ?_
  clear c10 q0 q1 hg6 z1 z2 z3 z4 z5 wb B5
  rintro e w7 ⟨v7, rfl, r7, b7, o7⟩
  go_wp2_with fail
  refine (sort11 v7 (SA ++ SB) w7 r7 (by simp; omega)).mono ?_
  rintro e w8 ⟨rfl, r8, g8⟩
  have b8 : Below w6.heap.size w6 w8 := b7.trans (g8.below b7.size o7)
  clear r7 b7 g8
  go_wp2_with fail
  have c12 := compact12 v7 (srt (SA ++ SB)) w8 r8 (by rw [srt_len]; simp; omega)
  rw [show Lib.compactUpTo (srt (SA ++ SB)).toArray (srt (SA ++ SB)).length = U from eD.out] at c12
  refine c12.mono ?_
  clear c12
  rintro e w9 ⟨v9, rfl, hv9, r9, g9⟩
  have b9 : Below w6.heap.size w6 w9 := b8.trans (g9.below b8.size o7)
  have B9 : Below w.heap.size w w9 := B6.trans (b9.mono B6.size)
  have V1 := V1.below b9
  have V2 := V2.below b9
  have V3 := V3.below b9
  have V4 := V4.below b9
  have V5 := V5.below b9
  obtain ⟨x9, n9, d9, rfl, hd9, V9, z9⟩ := look r9 (by omega)
  clear r8 r9 b8 b9 g9 hv9 o7 B6 z9
  go_wp2_with fail
  refine (equal13' x5 n5 d5 x9 n9 d9 U w9 V5 V9).mono ?_
  rintro e w10 ⟨rfl, q, rfl⟩
  go_wp2_with fail
  refine (equal13' x1 n1 d1 x3 n3 d3 SA _ (V1.drewN _) (V3.drewN _)).mono ?_
  rintro e w11 ⟨rfl, q', rfl⟩
  go_wp2_with fail
  refine (equal13' x2 n2 d2 x4 n4 d4 SB _ (V2.drewN _) (V4.drewN _)).mono ?_
  rintro e w12 ⟨rfl, q'', rfl⟩
  go_wp2
  go_ret
  exact ⟨rfl, below_drewN B9 _⟩

end Go.Proofs.Ybulkbxns
