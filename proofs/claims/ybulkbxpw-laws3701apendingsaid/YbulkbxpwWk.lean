/- The walks of zzs3701amap, pending, slices.Index, slices.Contains, agree. -/
import Derived.Test.YbulkbxpwMap
import Derived.Deep.QuietTactic
import Derived.BigQuiet
namespace Go.Proofs.Ybulkbxpw
open Go.RowKit
set_option maxRecDepth 100000
set_option maxHeartbeats 800000
set_option linter.unusedVariables false
set_option linter.unusedSimpArgs false

/-- a slice of uint64 that came in -/
def IntsAt (w : World) (a : Option Addr) (n : Nat) (zs : Nat → Int) : Prop :=
  ∀ i, i < n → ∃ b off, a = some ⟨b, off, none⟩ ∧ b < w.heap.size ∧ w.cell? ⟨b, off + i, none⟩ = some (.int .u64 (zs i))

theorem IntsAt.below {w w' : World} {a : Option Addr} {n : Nat} {zs : Nat → Int} {B : Nat} (h : IntsAt w a n zs) (hb : Below w.heap.size w w') : IntsAt w' a n zs := by
  intro i hi
  obtain ⟨b, off, e, hlt, h1⟩ := h i hi
  exact ⟨b, off, e, Nat.lt_of_lt_of_le hlt hb.size, by rw [hb.cell (p := ⟨b, off + i, none⟩) hlt]; exact h1⟩

theorem MapIs.kept {w w' : World} {m : Nat} {K : List Int} (h : MapIs w m K) (e : w'.heap[m]? = w.heap[m]?) : MapIs w' m K := by
  obtain ⟨es, clock, hb, r⟩ := h
  exact ⟨es, clock, e.trans hb, r⟩

theorem MapIs.lt {w : World} {m : Nat} {K : List Int} (h : MapIs w m K) : m < w.heap.size := by
  obtain ⟨es, clock, hb, r⟩ := h
  exact (Array.getElem?_eq_some_iff.1 hb).1

theorem put_other (w : World) (m : Nat) (o : Obj) (k : Nat) (h : k ≠ m) : (putBlock w m o).heap[k]? = w.heap[k]? := by
  simp only [putBlock, Array.getElem?_setIfInBounds]
  rw [if_neg (Ne.symm h)]

theorem put_below {B m : Nat} {w0 w : World} (h : Below B w0 w) (hB : B ≤ m) (o : Obj) : Below B w0 (putBlock w m o) :=
  h.trans ⟨rfl, rfl, rfl, by simp [putBlock], fun k hk => put_other _ _ _ _ (by omega)⟩

theorem amap5 (a : Option Addr) (n c : Nat) (zs : Nat → Int) (w : World) (hn : n ≤ 1024) (h : IntsAt w a n zs) :
    Calls Yba.prog 5 #[.slice a n c] w fun e w' => e = .returned (.map (some w.heap.size)) ∧ (∃ K, MapIs w' w.heap.size K ∧ ∀ y, y ∈ K ↔ ∃ i, i < n ∧ zs i = y) ∧ Below w.heap.size w w' ∧ w'.heap.size = w.heap.size + 1 := by
  have hmm := run_mkmap n
  go_enter Yba.func5, Yba.ntmps5
  go_wp2
  go_loopw [11, 5] (fun i _ wr => ∃ (k : Nat) (K : List Int), k ≤ n ∧ i = .int .i64 k ∧ MapIs wr w.heap.size K ∧ (∀ y, y ∈ K ↔ ∃ i, i < k ∧ zs i = y) ∧ Below w.heap.size w wr ∧ Hid (wr.heap.size = w.heap.size + 1)) (fun i _ _ => n - (intOf i).toNat)
  case atStart =>
    refine ⟨0, [], Nat.zero_le _, rfl, ⟨#[], 0, Go.Deep.blk_alloc_new _ _, rfl, by simp⟩, by simp, (Below.refl _ _).alloc (Nat.le_refl _) _, ?_⟩
    show _ = _
    simp
  case round =>
    obtain ⟨k, K, hk, rfl, hM, hK, hB, hs⟩ := hrel
    by_cases hlt : k < n
    · obtain ⟨b, off, rfl, hblt, hc⟩ := h.below (B := 0) hB k hlt
      have hlt' : (k : Int) < (n : Int) := by omega
      obtain ⟨o, hup, hM'⟩ := run_upd hM (zs k) (zs k) 1
      have hup' := hup
      unfold lv at hup'
      have HK : Hid (∀ y, y ∈ K ↔ ∃ i, i < k ∧ zs i = y) := hK
      clear hK hup hmm
      go_wp2
      go_roundw
      case rel =>
        refine ⟨k + 1, _, by omega, by go_num, hM', ?_, put_below hB (Nat.le_refl _) o, ?_⟩
        · intro y
          have := HK.out
          constructor
          · intro hy
            by_cases hz : zs k ∈ K
            · rw [if_pos hz] at hy
              obtain ⟨i, hi, e⟩ := (this y).1 hy
              exact ⟨i, by omega, e⟩
            · rw [if_neg hz] at hy
              rcases List.mem_append.1 hy with hy | hy
              · obtain ⟨i, hi, e⟩ := (this y).1 hy
                exact ⟨i, by omega, e⟩
              · exact ⟨k, by omega, (List.mem_singleton.1 hy).symm⟩
          · rintro ⟨i, hi, e⟩
            have hold : i < k → y ∈ K := fun hik => (this y).2 ⟨i, hik, e⟩
            by_cases hz : zs k ∈ K
            · rw [if_pos hz]
              by_cases hik : i < k
              · exact hold hik
              · obtain rfl : i = k := by omega
                rw [← e]; exact hz
            · rw [if_neg hz]
              by_cases hik : i < k
              · exact List.mem_append_left _ (hold hik)
              · obtain rfl : i = k := by omega
                exact List.mem_append_right _ (by rw [← e]; simp)
        · show _ = _
          simpa [putBlock] using hs.out
      case measure => simp [intOf]; omega
    · have hkn : k = n := by omega
      subst hkn
      go_wp2
      go_ret
      exact ⟨rfl, ⟨K, hM, hK⟩, hB, hs.out⟩

/-- a map that may be nil, and its keys -/
def MapHas (w : World) (r : Option Nat) (K : List Int) : Prop := (r = none ∧ K = []) ∨ ∃ m, r = some m ∧ MapIs w m K

theorem look_any {w : World} {r : Option Nat} {K : List Int} (h : MapHas w r K) (x : Int) :
    ∃ p q, (Instr.lookup 24 (.map r) (.int .u64 x) true).run Yba.prog w = .ok (.tuple #[lv p q, .bool (decide (x ∈ K))]) w := by
  rcases h with ⟨rfl, rfl⟩ | ⟨m, rfl, hM⟩
  · exact ⟨0, 0, by simpa using run_look_nil w x⟩
  · exact run_look hM x

theorem MapHas.kept {w w' : World} {r : Option Nat} {K : List Int} (h : MapHas w r K) (e : ∀ m, r = some m → w'.heap[m]? = w.heap[m]?) : MapHas w' r K := by
  rcases h with h | ⟨m, rfl, hM⟩
  · exact .inl h
  · exact .inr ⟨m, rfl, hM.kept (e m rfl)⟩

theorem MapHas.lt {w : World} {r : Option Nat} {K : List Int} (h : MapHas w r K) : ∀ m, r = some m → m < w.heap.size := by
  rintro m rfl
  rcases h with ⟨e, _⟩ | ⟨m', e, hM⟩
  · cases e
  · cases e; exact hM.lt

theorem pending7 (N : Nat) (r1 r2 : Option Nat) (K1 K2 : List Int) (x : Int) (w : World) (c1 : w.cell? ⟨N, 11, none⟩ = some (.map r1)) (c2 : w.cell? ⟨N, 12, none⟩ = some (.map r2)) (h1 : MapHas w r1 K1) (h2 : MapHas w r2 K2) :
    Calls Yba.prog 7 #[.pointer (some ⟨N, 0, none⟩), .int .u64 x] w fun e w' => e = .returned (.bool (decide (x ∈ K1) || decide (x ∈ K2))) ∧ Below w.heap.size w w' := by
  obtain ⟨p1, q1, l1⟩ := look_any h1 x
  have hb1 : Below w.heap.size w (w.alloc (.cells #[.int .u64 p1, .int .u64 q1, .slice none 0 0] 57)) := (Below.refl _ _).alloc (Nat.le_refl _) _
  have h2' : MapHas (w.alloc (.cells #[.int .u64 p1, .int .u64 q1, .slice none 0 0] 57)) r2 K2 := h2.kept fun m hm => hb1.block m (h2.lt m hm)
  obtain ⟨p2, q2, l2⟩ := look_any h2' x
  have hN : N < w.heap.size := by
    have := World.block_lt_of_cell? w _ c1
    exact this
  have c2' : (w.alloc (.cells #[.int .u64 p1, .int .u64 q1, .slice none 0 0] 57)).cell? ⟨N, 12, none⟩ = some (.map r2) := by rw [hb1.cell (p := ⟨N, 12, none⟩) hN]; exact c2
  unfold lv at l1 l2
  clear h1 h2 h2'
  generalize decide (x ∈ K1) = b1 at l1 ⊢
  generalize decide (x ∈ K2) = b2 at l2 ⊢
  cases b1
  · go_enter Yba.func7, Yba.ntmps7
    go_wp2
    go_ret
    exact ⟨by simp, (hb1.alloc (by simp) _)⟩
  · go_enter Yba.func7, Yba.ntmps7
    go_wp2
    go_ret
    exact ⟨by simp, (hb1.alloc (by simp) _)⟩

/-- is x among the first n? -/
def has (zs : Nat → Int) (n : Nat) (x : Int) : Bool := (List.range n).any fun i => zs i == x
theorem has_iff (zs : Nat → Int) (n : Nat) (x : Int) : has zs n x = true ↔ ∃ i, i < n ∧ zs i = x := by simp [has]

theorem index9 (a : Option Addr) (n c : Nat) (zs : Nat → Int) (x : Int) (w : World) (hn : n ≤ 1024) (h : IntsAt w a n zs) :
    Calls Yba.prog 9 #[.slice a n c, .int .u64 x] w fun e w' => ∃ r : Int, e = .returned (.int .i64 r) ∧ (0 ≤ r ↔ has zs n x = true) ∧ w' = w := by
  go_enter Yba.func9, Yba.ntmps9
  go_wp2
  go_loop [8, 5] (fun i _ => ∃ k : Nat, k ≤ n ∧ i = .int .i64 k ∧ Hid (∀ j, j < k → zs j ≠ x)) (fun i _ => n - (intOf i).toNat)
  case atStart => exact ⟨0, Nat.zero_le _, rfl, fun j hj => absurd hj (by omega)⟩
  case round =>
    obtain ⟨k, hk, rfl, hno⟩ := hrel
    by_cases hlt : k < n
    · obtain ⟨b, off, rfl, hblt, hc⟩ := h k hlt
      have hlt' : (k : Int) < (n : Int) := by omega
      by_cases hx : x = zs k
      · have hx' : (x == zs k) = true := by simpa using hx
        have HX : Hid (x = zs k) := hx
        clear hx
        go_wp2
        go_ret
        exact ⟨k, rfl, ⟨fun _ => (has_iff zs n x).2 ⟨k, hlt, HX.out.symm⟩, fun _ => by omega⟩, rfl⟩
      · have hx' : (x == zs k) = false := by simpa using hx
        have HX : Hid (¬ x = zs k) := hx
        clear hx
        go_wp2
        go_round
        case rel =>
          refine ⟨k + 1, by omega, by go_num, ?_⟩
          intro j hj
          by_cases hjk : j < k
          · exact hno.out j hjk
          · obtain rfl : j = k := by omega
            exact fun e => HX.out e.symm
        case measure => simp [intOf]; omega
    · go_wp2
      go_ret
      refine ⟨-1, rfl, ⟨fun h => absurd h (by omega), fun h => ?_⟩, rfl⟩
      obtain ⟨i, hi, e⟩ := (has_iff zs n x).1 h
      exact absurd e (hno.out i (by omega))

theorem contains8 (a : Option Addr) (n c : Nat) (zs : Nat → Int) (x : Int) (w : World) (hn : n ≤ 1024) (h : IntsAt w a n zs) :
    Calls Yba.prog 8 #[.slice a n c, .int .u64 x] w fun e w' => e = .returned (.bool (has zs n x)) ∧ w' = w := by
  go_enter Yba.func8, Yba.ntmps8
  go_wp2_with fail
  refine (index9 a n c zs x w hn h).mono ?_
  rintro e w' ⟨r, rfl, hr, hw⟩
  subst hw
  have HR : Hid (0 ≤ r ↔ has zs n x = true) := hr
  clear hr
  go_wp2
  go_ret
  refine ⟨?_, rfl⟩
  have := HR.out
  congr 2
  cases hb : has zs n x
  · simp [hb] at this; simp; omega
  · simp [hb] at this; simp; omega

theorem agree6 (N : Nat) (r1 r2 : Option Nat) (K1 K2 : List Int) (a1 : Option Addr) (n1 c1 : Nat) (z1 : Nat → Int) (a2 : Option Addr) (n2 c2 : Nat) (z2 : Nat → Int) (x : Int) (w : World)
    (d1 : w.cell? ⟨N, 11, none⟩ = some (.map r1)) (d2 : w.cell? ⟨N, 12, none⟩ = some (.map r2)) (h1 : MapHas w r1 K1) (h2 : MapHas w r2 K2)
    (hn1 : n1 ≤ 1024) (hn2 : n2 ≤ 1024) (i1 : IntsAt w a1 n1 z1) (i2 : IntsAt w a2 n2 z2)
    (k1 : ∀ y, y ∈ K1 ↔ ∃ i, i < n1 ∧ z1 i = y) (k2 : ∀ y, y ∈ K2 ↔ ∃ i, i < n2 ∧ z2 i = y) :
    Calls Yba.prog 6 #[.pointer (some ⟨N, 0, none⟩), .slice a1 n1 c1, .slice a2 n2 c2, .int .u64 x] w fun e w' => e = .returned (.bool true) ∧ Below w.heap.size w w' := by
  have e1 : Hid (decide (x ∈ K1) = has z1 n1 x) := by
    show _ = _
    rw [Bool.eq_iff_iff, has_iff]; simpa using k1 x
  have e2 : Hid (decide (x ∈ K2) = has z2 n2 x) := by
    show _ = _
    rw [Bool.eq_iff_iff, has_iff]; simpa using k2 x
  clear k1 k2
  go_enter Yba.func6, Yba.ntmps6
  go_wp2_with fail
  refine (contains8 a1 n1 c1 z1 x w hn1 i1).mono ?_
  rintro e w1 ⟨rfl, hw⟩
  subst hw
  generalize hb1 : has z1 n1 x = b1 at e1 ⊢
  have HB1 : Hid (has z1 n1 x = b1) := hb1
  clear hb1
  cases b1
  · go_wp2_with fail
    refine (contains8 a2 n2 c2 z2 x _ hn2 i2).mono ?_
    rintro e w2 ⟨rfl, hw⟩
    subst hw
    generalize hb2 : has z2 n2 x = b2 at e2 ⊢
    have HB2 : Hid (has z2 n2 x = b2) := hb2
    clear hb2
    go_wp2_with fail
    refine (pending7 N r1 r2 K1 K2 x _ d1 d2 h1 h2).mono ?_
    rintro e w3 ⟨rfl, hb⟩
    rw [e1.out, e2.out]
    go_wp2
    go_ret
    exact ⟨by simp, hb⟩
  · go_wp2_with fail
    refine (pending7 N r1 r2 K1 K2 x _ d1 d2 h1 h2).mono ?_
    rintro e w3 ⟨rfl, hb⟩
    rw [e1.out]
    go_wp2
    go_ret
    exact ⟨by simp, hb⟩

end Go.Proofs.Ybulkbxpw
