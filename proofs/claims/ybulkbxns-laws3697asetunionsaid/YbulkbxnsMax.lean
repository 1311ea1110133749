/- zzs3697asorted; LawS3697AMaxCount: the walk. -/
import Derived.Test.YbulkbxnsUnion
namespace Go.Proofs.Ybulkbxns
open Go.RowKit Go.Proofs.Own Go.Proofs.UnionMath
set_option maxRecDepth 100000
set_option maxHeartbeats 400000
set_option linter.unusedVariables false
set_option linter.unusedSimpArgs false

theorem RowAt.view {w : World} {v : Value} {L : List S} (h : RowAt w 9 v (L.map sv)) : ∃ a n c, v = .slice a n c ∧ Hid (n = L.length) ∧ n ≤ c ∧ StrsAt w a L ∧ (a = none → L = [] ∧ c = 0) ∧ (∀ x, a = some x → v.ownBlock = some x.block) := by
  rcases h with ⟨rfl, hx⟩ | ⟨g, cap, cur, rfl, hg, hn, hm, hs, ht⟩
  · have hb : L = [] := by simpa using hx
    subst hb
    exact ⟨none, 0, 0, rfl, rfl, by omega, fun i hi => absurd hi (by simp), fun _ => ⟨rfl, rfl⟩, fun x hx => by cases hx⟩
  · obtain ⟨a, c, e, hst, ho⟩ := RowAt.strs (w := w) (v := .slice (some ⟨g, 0, none⟩) (L.map sv).length cap) (L := L) (.inr ⟨g, cap, cur, rfl, hg, hn, hm, hs, ht⟩)
    simp only [Value.slice.injEq] at e
    obtain ⟨rfl, _, rfl⟩ := e
    exact ⟨_, _, cap, rfl, by show _ = _; simp, hn, hst, (fun hx => by cases hx), ho⟩

theorem sorted7_false (a : Option Addr) (c : Nat) (L : List S) (w : World) (hl : L.length ≤ 4096) (h : StrsAt w a L) (h0 : a = none → L = [] ∧ c = 0) :
    Calls Yba.prog 7 #[.slice a L.length c, .bool false] w fun e w' => ∃ v', e = .returned v' ∧ RowAt w' 9 v' ((srt L).map sv) ∧ Below w.heap.size w w' ∧ (∀ k, v'.ownBlock = some k → w.heap.size ≤ k) := by
  go_enter Yba.func7, Yba.ntmps7
  go_wp2_with fail
  refine (clone8 a c L w hl h h0).mono ?_
  rintro e w1 ⟨v1, rfl, r1, b1, o1⟩
  go_wp2_with fail
  refine (sort11 v1 L w1 r1 (by omega)).mono ?_
  rintro e w2 ⟨rfl, r2, g2⟩
  have b2 : Below w.heap.size w w2 := b1.trans (g2.below b1.size o1)
  clear r1 b1 g2
  go_wp2
  go_ret
  exact ⟨_, rfl, r2, b2, o1⟩

theorem sorted7_true (a : Option Addr) (c : Nat) (L : List S) (w : World) (hl : L.length ≤ 4096) (h : StrsAt w a L) (h0 : a = none → L = [] ∧ c = 0) :
    Calls Yba.prog 7 #[.slice a L.length c, .bool true] w fun e w' => ∃ v', e = .returned v' ∧ RowAt w' 9 v' ((Lib.compactUpTo (srt L).toArray (srt L).length).map sv) ∧ Below w.heap.size w w' ∧ (∀ k, v'.ownBlock = some k → w.heap.size ≤ k) := by
  go_enter Yba.func7, Yba.ntmps7
  go_wp2_with fail
  refine (clone8 a c L w hl h h0).mono ?_
  rintro e w1 ⟨v1, rfl, r1, b1, o1⟩
  go_wp2_with fail
  refine (sort11 v1 L w1 r1 (by omega)).mono ?_
  rintro e w2 ⟨rfl, r2, g2⟩
  have b2 : Below w.heap.size w w2 := b1.trans (g2.below b1.size o1)
  clear r1 b1 g2
  go_wp2_with fail
  refine (compact12 v1 (srt L) w2 r2 (by rw [srt_len]; omega)).mono ?_
  rintro e w3 ⟨v3, rfl, hv3, r3, g3⟩
  have b3 : Below w.heap.size w w3 := b2.trans (g3.below b2.size o1)
  have o3 : ∀ k, v3.ownBlock = some k → w.heap.size ≤ k := by rw [hv3]; exact o1
  clear r2 b2 g3 hv3 o1
  go_wp2
  go_ret
  exact ⟨_, rfl, r3, b3, o3⟩

theorem max_long (a1 : Option Addr) (n1 c1 : Nat) (a2 : Option Addr) (n2 c2 : Nat) (w : World) (h : 1024 < n1 ∨ 1024 < n2) :
    Calls Yba.prog 4 #[.slice a1 n1 c1, .slice a2 n2 c2] w fun e w' => e = .returned (.bool true) ∧ Below w.heap.size w w' := by
  by_cases h0 : (1024 : Int) < n1
  · go_enter Yba.func4, Yba.ntmps4
    go_wp2
    go_ret
    exact ⟨rfl, Below.refl _ _⟩
  · have h1 : (1024 : Int) < n2 := by omega
    go_enter Yba.func4, Yba.ntmps4
    go_wp2
    go_ret
    exact ⟨rfl, Below.refl _ _⟩

theorem union9' (a1 : Option Addr) (n1 c1 : Nat) (A : List S) (a2 : Option Addr) (n2 c2 : Nat) (B : List S) (w : World) (hn1 : Hid (n1 = A.length)) (hn2 : Hid (n2 = B.length)) (hlA : n1 ≤ 1024) (hlB : n2 ≤ 1024) (hA : StrsAt w a1 A) (hB : StrsAt w a2 B) (hc1 : n1 ≤ c1) (hc2 : n2 ≤ c2) :
    Calls Yba.prog 9 #[.slice a1 n1 c1, .slice a2 n2 c2] w fun e w' => ∃ v', e = .returned v' ∧ RowAt w' 9 v' ((mg (A.length + B.length) A B).map sv) ∧ Below w.heap.size w w' ∧ (∀ k, v'.ownBlock = some k → w.heap.size ≤ k) := by
  obtain rfl := hn1.out
  obtain rfl := hn2.out
  exact union9 a1 c1 A a2 c2 B w hlA hlB hA hB hc1 hc2

theorem count14' (a : Option Addr) (n c : Nat) (L : List S) (s : S) (w : World) (hn : Hid (n = L.length)) (hl : n ≤ 4096) (h : StrsAt w a L) :
    Calls Yba.prog 14 #[.slice a n c, .string ⟨s.toArray⟩] w fun e w' => e = .returned (.int .i64 (L.count s)) ∧ w' = w := by
  obtain rfl := hn.out
  exact count14 a c L s w (by omega) h

/-- a slice that is looked at: its address, length, capacity, and the list -/
structure View (w : World) (a : Option Addr) (n c : Nat) (L : List S) : Prop where
  len : Hid (n = L.length)
  le : n ≤ 4096
  at_ : StrsAt w a L

theorem View.below {w w' : World} {a : Option Addr} {n c : Nat} {L : List S} (h : View w a n c L) (hb : Below w.heap.size w w') : View w' a n c L := ⟨h.len, h.le, h.at_.below hb⟩

theorem max_short (a1 : Option Addr) (m1 c1 : Nat) (A : List S) (a2 : Option Addr) (m2 c2 : Nat) (B : List S) (w : World) (hm1 : m1 ≤ 1024) (hm2 : m2 ≤ 1024) (em1 : Hid (m1 = A.length)) (em2 : Hid (m2 = B.length)) (hA : StrsAt w a1 A) (hB : StrsAt w a2 B)
    (hA0 : a1 = none → A = [] ∧ c1 = 0) (hB0 : a2 = none → B = [] ∧ c2 = 0) :
    Calls Yba.prog 4 #[.slice a1 m1 c1, .slice a2 m2 c2] w fun e w' => e = .returned (.bool true) ∧ Below w.heap.size w w' := by
  have k1 : (m1 : Int) ≤ 1024 := by omega
  have k2 : (m2 : Int) ≤ 1024 := by omega
  obtain ⟨SA, eSA⟩ : ∃ SA, Hid (srt A = SA) := ⟨_, rfl⟩
  obtain ⟨SB, eSB⟩ : ∃ SB, Hid (srt B = SB) := ⟨_, rfl⟩
  have lA : SA.length ≤ 1024 := by rw [← eSA.out, srt_len]; have := em1.out; omega
  have lB : SB.length ≤ 1024 := by rw [← eSB.out, srt_len]; have := em2.out; omega
  have sA : SA.Pairwise (· ≤ ·) := by rw [← eSA.out]; exact srt_sorted A
  have sB : SB.Pairwise (· ≤ ·) := by rw [← eSB.out]; exact srt_sorted B
  obtain ⟨U, eU⟩ : ∃ U, Hid (mg (SA.length + SB.length) SA SB = U) := ⟨_, rfl⟩
  have HS : Hid (U.Pairwise (· ≤ ·)) := by rw [← eU.out]; exact mg_sorted _ _ _ (Nat.le_refl _) sA sB
  have HC : Hid (∀ s, U.count s = max (SA.count s) (SB.count s)) := by rw [← eU.out]; exact fun s => mg_count _ _ _ s (Nat.le_refl _) sA sB
  have lU : U.length ≤ 2048 := by rw [← eU.out]; have := mg_len (SA.length + SB.length) SA SB; omega
  clear sA sB
  go_enter Yba.func4, Yba.ntmps4
  go_wp2_with fail
  have c7a := sorted7_false a1 c1 A w (by have := em1.out; omega) hA hA0
  rw [← em1.out, eSA.out] at c7a
  refine c7a.mono ?_
  clear c7a
  rintro e w1 ⟨v1, rfl, r1, b1, o1⟩
  go_wp2_with fail
  have c7b := sorted7_false a2 c2 B w1 (by have := em2.out; omega) (hB.below b1) hB0
  rw [← em2.out, eSB.out] at c7b
  refine c7b.mono ?_
  clear c7b
  rintro e w2 ⟨v2, rfl, r2, b2, o2⟩
  have r1' : RowAt w2 9 v1 (SA.map sv) := r1.kept fun k hk => b2.block k (r1.lt k hk)
  have B2 : Below w.heap.size w w2 := b1.trans (b2.mono b1.size)
  clear r1 b1 b2 o2 hA hB hA0 hB0
  obtain ⟨x1, n1, d1, rfl, hn1, hd1, s1, z1, _⟩ := RowAt.view r1'
  obtain ⟨x2, n2, d2, rfl, hn2, hd2, s2, z2, _⟩ := RowAt.view r2
  have hn1' : n1 ≤ 1024 := by have := hn1.out; omega
  have hn2' : n2 ≤ 1024 := by have := hn2.out; omega
  clear z1 z2 r1' r2 o1
  go_wp2_with fail
  have c9 := union9' x1 n1 d1 SA x2 n2 d2 SB w2 hn1 hn2 hn1' hn2' s1 s2 hd1 hd2
  rw [eU.out] at c9
  refine c9.mono ?_
  clear c9
  rintro e w3 ⟨v3, rfl, r3, b3, o3⟩
  have V1 : View w3 x1 n1 d1 SA := ⟨hn1, by omega, s1.below b3⟩
  have V2 : View w3 x2 n2 d2 SB := ⟨hn2, by omega, s2.below b3⟩
  have B3 : Below w.heap.size w w3 := B2.trans (b3.mono B2.size)
  obtain ⟨x3, n3, d3, rfl, hn3, hd3, s3, z3, _⟩ := RowAt.view r3
  have hn3' : n3 ≤ 2048 := by have := hn3.out; omega
  have V3 : View w3 x3 n3 d3 U := ⟨hn3, by omega, s3⟩
  clear r3 s1 s2 b3 o3 B2 hn1 hn2 hn3 z3 s3 lA lB lU
  go_wp2
  go_loopw [8] (fun i wr => ∃ j q : Nat, j ≤ 4096 ∧ i = .int .i64 ((j : Int) + 1) ∧ wr = w3.drewN q) (fun i _ => n3 + 1 - (intOf i).toNat)
  case atStart => exact ⟨0, 0, by omega, rfl, rfl⟩
  case round =>
    obtain ⟨j, q, hj, rfl, rfl⟩ := hrel
    by_cases hlt : j + 1 < n3
    · obtain ⟨b, off, rfl, hb, hc1⟩ := V3.at_ (j + 1) (by have := V3.len.out; omega)
      obtain ⟨b', off', e, hb', hc0⟩ := V3.at_ j (by have := V3.len.out; omega)
      cases e
      have hord : Op.bytesLess (U.getD (j + 1) []) (U.getD j []) = false := by
        have hl := V3.len.out
        have := List.pairwise_iff_getElem.1 HS.out j (j + 1) (by omega) (by omega) (by omega)
        rw [bytesLess_eq]
        simpa [List.getD, show j + 1 < U.length by omega, show j < U.length by omega] using this
      have hlt' : (j : Int) + 1 < (n3 : Int) := by omega
      unfold sv at hc1 hc0
      generalize U.getD (j + 1) [] = s1 at hc1 hord
      generalize U.getD j [] = s0 at hc0 hord
      go_wp2
      go_quiet (fail)
      go_wp2
      go_roundw
      case rel => exact ⟨j + 1, _, by omega, by go_num, rfl⟩
      case measure => simp [intOf]; omega
    · have V1' : View (w3.drewN q) x1 n1 d1 SA := ⟨V1.len, V1.le, V1.at_⟩
      have V2' : View (w3.drewN q) x2 n2 d2 SB := ⟨V2.len, V2.le, V2.at_⟩
      have V3' : View (w3.drewN q) x3 n3 d3 U := ⟨V3.len, V3.le, V3.at_⟩
      have B' := below_drewN B3 q
      generalize w3.drewN q = W at V1' V2' V3' B' ⊢
      clear V1 V2 V3 B3
      go_wp2
      have wb : Below W.heap.size W (W.alloc (.cells #[.slice x1 n1 d1, .slice x2 n2 d2, .slice x3 n3 d3] 29)) := (Below.refl _ _).alloc (Nat.le_refl _) _
      have W1 := V1'.below wb
      have W2 := V2'.below wb
      have W3 := V3'.below wb
      have BX := B'.alloc B'.size (.cells #[.slice x1 n1 d1, .slice x2 n2 d2, .slice x3 n3 d3] 29)
      have q0 : (W.alloc (.cells #[.slice x1 n1 d1, .slice x2 n2 d2, .slice x3 n3 d3] 29)).cell? ⟨W.heap.size, 0, none⟩ = some (.slice x1 n1 d1) := by simp
      have q1 : (W.alloc (.cells #[.slice x1 n1 d1, .slice x2 n2 d2, .slice x3 n3 d3] 29)).cell? ⟨W.heap.size, 1, none⟩ = some (.slice x2 n2 d2) := by simp
      have q2 : (W.alloc (.cells #[.slice x1 n1 d1, .slice x2 n2 d2, .slice x3 n3 d3] 29)).cell? ⟨W.heap.size, 2, none⟩ = some (.slice x3 n3 d3) := by simp
      generalize W.alloc (.cells #[.slice x1 n1 d1, .slice x2 n2 d2, .slice x3 n3 d3] 29) = X at W1 W2 W3 BX q0 q1 q2 ⊢
      generalize W.heap.size = Lb at q0 q1 q2 ⊢
      clear V1' V2' V3' B' wb
      have hcells : ∀ k : Nat, k < 3 → ∃ ak nk dk Lk, X.cell? ⟨Lb, k, none⟩ = some (.slice ak nk dk) ∧ View X ak nk dk Lk := by
        intro k hk
        match k, hk with
        | 0, _ => exact ⟨_, _, _, SA, q0, W1⟩
        | 1, _ => exact ⟨_, _, _, SB, q1, W2⟩
        | 2, _ => exact ⟨_, _, _, U, q2, W3⟩
      have HL : Hid (∀ k : Nat, k < 3 → ∃ ak nk dk Lk, X.cell? ⟨Lb, k, none⟩ = some (.slice ak nk dk) ∧ View X ak nk dk Lk) := hcells
      clear hcells q0 q1 q2
      go_loop [10] (fun i => ∃ k : Nat, k ≤ 3 ∧ i = .int .i64 k) (fun i => 3 - (intOf i).toNat)
      case atStart => exact ⟨0, by omega, rfl⟩
      case round =>
        obtain ⟨k, hk, rfl⟩ := hrel
        by_cases hk3 : k < 3
        · obtain ⟨ak, nk, dk, Lk, hcell, Vk⟩ := HL.out k hk3
          have hk3' : (k : Int) < 3 := by omega
          have hnk := Vk.le
          go_wp2
          go_loop [12, 13] (fun i _ => ∃ m : Nat, m ≤ nk ∧ i = .int .i64 m) (fun i _ => nk - (intOf i).toNat)
          case atStart => exact ⟨0, Nat.zero_le _, rfl⟩
          case round =>
            obtain ⟨m, hm, rfl⟩ := hrel
            by_cases hmn : m < nk
            · obtain ⟨b, off, rfl, hb, hc⟩ := Vk.at_ m (by have := Vk.len.out; omega)
              have hmn' : (m : Int) < (nk : Int) := by omega
              unfold sv at hc
              generalize Lk.getD m [] = str at hc
              have hne : ((U.count str : Int) != max (SA.count str : Int) (SB.count str : Int)) = false := by
                have := HC.out str
                simp; omega
              go_wp2_with fail
              refine (count14' x3 n3 d3 U str _ W3.len W3.le W3.at_).mono ?_
              rintro e w4 ⟨rfl, hw⟩
              subst hw
              go_wp2_with fail
              refine (count14' x1 n1 d1 SA str _ W1.len W1.le W1.at_).mono ?_
              rintro e w4 ⟨rfl, hw⟩
              subst hw
              go_wp2_with fail
              refine (count14' x2 n2 d2 SB str _ W2.len W2.le W2.at_).mono ?_
              rintro e w4 ⟨rfl, hw⟩
              subst hw
              go_wp2
              go_round
              case rel => exact ⟨m + 1, by omega, by go_num⟩
              case measure => simp [intOf]; omega
            · go_wp2
              go_round
              case rel => exact ⟨k + 1, by omega, by go_num⟩
              case measure => simp [intOf]; omega
        · go_wp2
          go_ret
          exact ⟨rfl, BX⟩

end Go.Proofs.Ybulkbxns
