/- LawS3696ARun: the law's walk. -/
import Derived.Test.YbulkbxneRunF
import Derived.Deep.DeepCutAuto
import Derived.Deep.CutBlock
namespace Go.Proofs.Ybulkbxne
open Go.RowKit Go.Proofs.WholeFloat Go.Proofs.Own
set_option maxRecDepth 100000
set_option maxHeartbeats 1600000
set_option linter.unusedVariables false
set_option linter.unusedSimpArgs false
attribute [local go_sem] run_store_float

/-- a slice of int16 that came in, its numbers v -/
def IsI (w : World) (a : Option Addr) (len : Nat) (v : Nat → Int) : Prop :=
  ∀ i, i < len → ∃ b off, a = some ⟨b, off, none⟩ ∧ b < w.heap.size ∧ w.cell? ⟨b, off + i, none⟩ = some (.int .i16 (v i))

/-- the states' first values -/
def stv (j i : Nat) : Int := if j < 3 ∧ i < 1024 then (j : Int) * 2000 + i else 0
theorem stv_small (j i : Nat) : Small (stv j i) := by
  unfold stv Small
  split <;> omega
theorem stv_small1 (j i : Nat) : Small (stv j i + 1) := by
  unfold stv Small
  split <;> omega

/-- the fresh world behind two makes -/
theorem two_made (w : World) (n : Nat) : FR ((w.alloc (.cells (madeCells #[.float .f64 0] n) 25)).alloc (.cells (madeCells #[.float .f64 0] n) 25)) .f64 w.heap.size n (fun _ => 0) ∧
    FR ((w.alloc (.cells (madeCells #[.float .f64 0] n) 25)).alloc (.cells (madeCells #[.float .f64 0] n) 25)) .f64 (w.heap.size + 1) n (fun _ => 0) ∧
    Below w.heap.size w ((w.alloc (.cells (madeCells #[.float .f64 0] n) 25)).alloc (.cells (madeCells #[.float .f64 0] n) 25)) := by
  refine ⟨(FR.made w .f64 n).alloc _, ?_, ((Below.refl _ _).alloc (Nat.le_refl _) _).alloc (by simp) _⟩
  have := FR.made (w.alloc (.cells (madeCells #[.float .f64 0] n) 25)) .f64 n
  simpa [ety] using this

theorem Yba.info28 : (Yba.prog.info? 28).map (fun i => (i.zero, i.size, i.bytes)) = some (some (.pointer none), 1, 8) := by kernel_rfl

theorem run6 (k : FloatKind) (q sb ym vm gm yr pr gr K n lo hi : Nat) (ms rs : Nat → Nat) (yv pv gv : Nat → Int) (sv : Nat → Nat → Int) (w : World) (hn : n ≤ 1024) (hK : K ≤ 2) (hlo : lo ≤ hi) (hhi : hi ≤ n)
    (hq : w.heap[q]? = some (.cells (ruleC 0 0 (.slice none 0 0) (.slice none 0 0) (.slice none 0 0)) 33 (0, 0)))
    (hym : w.heap[ym]? = some (.cells (matR k n yr) 58 (0, 0))) (hvm : w.heap[vm]? = some (.cells (matR k n pr) 58 (0, 0))) (hgm : w.heap[gm]? = some (.cells (matR k n gr) 58 (0, 0)))
    (hsb : w.rowIs sb 28 K (fun j => .pointer (some ⟨ms j, 0, none⟩))) (hms : ∀ j, j < K → w.heap[ms j]? = some (.cells (matR k n (rs j)) 58 (0, 0)))
    (hy : FR w k yr n yv) (hp : FR w k pr n pv) (hg : FR w k gr n gv) (hs : ∀ j, j < K → FR w k (rs j) n (sv j))
    (hps : ∀ i, Small (pv i)) (hgs : ∀ i, Small (gv i)) (hds : ∀ i, Small (pv i - gv i)) (hss : ∀ j i, Small (sv j i)) (hss1 : ∀ j i, Small (sv j i + 1))
    (d1 : yr ≠ pr) (d2 : yr ≠ gr) (d3 : ∀ j, j < K → rs j ≠ yr ∧ rs j ≠ pr ∧ rs j ≠ gr) (d4 : ∀ i j, i < K → j < K → i ≠ j → rs i ≠ rs j) :
    Calls Yba.prog 6 #[.pointer (some ⟨ym, 0, none⟩), .pointer (some ⟨vm, 0, none⟩), .pointer (some ⟨gm, 0, none⟩), .slice (some ⟨sb, 0, none⟩) K K, .iface 31 (.pointer (some ⟨q, 0, none⟩)), .int .i64 lo, .int .i64 hi] w fun e w' => e = .returned (.tuple #[]) ∧
      Stepped k q yr K n lo hi rs yv pv gv sv w w' := by
  cases k
  · exact run6_f32 q sb ym vm gm yr pr gr K n lo hi ms rs yv pv gv sv w hn hK hlo hhi hq hym hvm hgm hsb hms hy hp hg hs hps hgs hds hss hss1 d1 d2 d3 d4
  · exact run6_f64 q sb ym vm gm yr pr gr K n lo hi ms rs yv pv gv sv w hn hK hlo hhi hq hym hvm hgm hsb hms hy hp hg hs hps hgs hds hss hss1 d1 d2 d3 d4

theorem stv_eq (j i : Nat) (hj : j < 3) (hi : i < 1024) : stv j i = (j : Int) * 2000 + i := by
  unfold stv; rw [if_pos ⟨hj, hi⟩]

/-- behind 'st[j] = make([]float64, n)' -/
theorem row_laid {W V : World} {tS K n j : Nat} {tr : Nat → Nat} (hlt : j < K) (hS : tS < W.heap.size) (g1 : V.rowIs tS 24 K (fun i => if i < j then .slice (some ⟨tr i, 0, none⟩) n n else .slice none 0 0))
    (g2 : ∀ i, i < j → FR V .f64 (tr i) n (stv i) ∧ W.heap.size ≤ tr i) (g4 : Kept (fun b => b = tS) W V) :
    ∃ tr' : Nat → Nat, tr' j = V.heap.size ∧ (∀ i, i ≠ j → tr' i = tr i) ∧
      ((V.setCell ⟨tS, j, none⟩ (.slice (some ⟨V.heap.size, 0, none⟩) n n)).alloc (.cells (madeCells #[.float .f64 0] n) 25)).rowIs tS 24 K (fun i => if i < j + 1 then .slice (some ⟨tr' i, 0, none⟩) n n else .slice none 0 0) ∧
      FR ((V.setCell ⟨tS, j, none⟩ (.slice (some ⟨V.heap.size, 0, none⟩) n n)).alloc (.cells (madeCells #[.float .f64 0] n) 25)) .f64 V.heap.size n (fun _ => 0) ∧
      (∀ i, i < j → FR ((V.setCell ⟨tS, j, none⟩ (.slice (some ⟨V.heap.size, 0, none⟩) n n)).alloc (.cells (madeCells #[.float .f64 0] n) 25)) .f64 (tr' i) n (stv i) ∧ W.heap.size ≤ tr' i ∧ tr' i < V.heap.size) ∧
      Kept (fun b => b = tS) W ((V.setCell ⟨tS, j, none⟩ (.slice (some ⟨V.heap.size, 0, none⟩) n n)).alloc (.cells (madeCells #[.float .f64 0] n) 25)) := by
  have hsz : (V.setCell ⟨tS, j, none⟩ (.slice (some ⟨V.heap.size, 0, none⟩) n n)).heap.size = V.heap.size := by simp [World.setCell]
  obtain ⟨tr', htr⟩ : ∃ f : Nat → Nat, f = fun i => if i = j then V.heap.size else tr i := ⟨_, rfl⟩
  have h1 : tr' j = V.heap.size := by rw [htr]; simp
  have h2 : ∀ i, i ≠ j → tr' i = tr i := fun i hi => by rw [htr]; simp [hi]
  refine ⟨tr', h1, h2, ?_, ?_, ?_, ?_⟩
  · have := rowIs_step (v := fun i => Value.slice (some ⟨tr' i, 0, none⟩) n n) (u := fun _ => .slice none 0 0) (i := j) (g1.congr (fun i hi => by
      by_cases h : i < j
      · simp [h, h2 i (by omega)]
      · simp [h]))
    rw [h1] at this
    exact this.alloc _
  · have := FR.made (V.setCell ⟨tS, j, none⟩ (.slice (some ⟨V.heap.size, 0, none⟩) n n)) .f64 n
    rw [hsz] at this
    exact this
  · intro i hi
    obtain ⟨r1, r2⟩ := g2 i hi
    rw [h2 i (by omega)]
    exact ⟨(r1.other (by show tr i ≠ tS; omega) _).alloc _, r2, r1.lt⟩
  · exact (g4.setCell (p := ⟨tS, j, none⟩) (.inl rfl) _).alloc _

/-- behind 'state[j] = zzs3696amat(f32, st[j])': the store into the row of pointers -/
theorem state_laid {X V V' : World} {k : FloatKind} {sB K n j : Nat} {ms rs : Nat → Nat} (hlt : j < K) (hX : X.heap.size = sB + 1)
    (g1 : V.rowIs sB 28 K (fun i => if i < j then .pointer (some ⟨ms i, 0, none⟩) else .pointer none))
    (g2 : ∀ i, i < j → V.heap[ms i]? = some (.cells (matR k n (rs i)) 58 (0, 0)) ∧ FR V k (rs i) n (stv i) ∧ X.heap.size ≤ ms i ∧ X.heap.size ≤ rs i)
    (g3 : ∀ a b, a < j → b < j → a ≠ b → rs a ≠ rs b) (g4 : Kept (fun b => b = sB) X V)
    (e1 : V'.heap[V.heap.size]? = some (.cells (matR k n (V.heap.size + 1)) 58 (0, 0))) (e2 : FR V' k (V.heap.size + 1) n (stv j)) (e3 : Below V.heap.size V V') :
    ∃ ms' rs' : Nat → Nat, (V'.setCell ⟨sB, j, none⟩ (.pointer (some ⟨V.heap.size, 0, none⟩))).rowIs sB 28 K (fun i => if i < j + 1 then .pointer (some ⟨ms' i, 0, none⟩) else .pointer none) ∧
      (∀ i, i < j + 1 → (V'.setCell ⟨sB, j, none⟩ (.pointer (some ⟨V.heap.size, 0, none⟩))).heap[ms' i]? = some (.cells (matR k n (rs' i)) 58 (0, 0)) ∧ FR (V'.setCell ⟨sB, j, none⟩ (.pointer (some ⟨V.heap.size, 0, none⟩))) k (rs' i) n (stv i) ∧ X.heap.size ≤ ms' i ∧ X.heap.size ≤ rs' i) ∧
      (∀ a b, a < j + 1 → b < j + 1 → a ≠ b → rs' a ≠ rs' b) ∧ Kept (fun b => b = sB) X (V'.setCell ⟨sB, j, none⟩ (.pointer (some ⟨V.heap.size, 0, none⟩))) := by
  have hXV := g4.size
  have hsl := g1.lt
  obtain ⟨ms', hms⟩ : ∃ f : Nat → Nat, f = fun i => if i = j then V.heap.size else ms i := ⟨_, rfl⟩
  obtain ⟨rs', hrs⟩ : ∃ f : Nat → Nat, f = fun i => if i = j then V.heap.size + 1 else rs i := ⟨_, rfl⟩
  have h1 : ms' j = V.heap.size := by rw [hms]; simp
  have h2 : ∀ i, i ≠ j → ms' i = ms i := fun i hi => by rw [hms]; simp [hi]
  have h3 : rs' j = V.heap.size + 1 := by rw [hrs]; simp
  have h4 : ∀ i, i ≠ j → rs' i = rs i := fun i hi => by rw [hrs]; simp [hi]
  refine ⟨ms', rs', ?_, ?_, ?_, ?_⟩
  · have := rowIs_step (v := fun i => Value.pointer (some ⟨ms' i, 0, none⟩)) (u := fun _ => .pointer none) (i := j) ((g1.of_block (e3.block sB hsl)).congr (fun i hi => by
      by_cases h : i < j
      · simp [h, h2 i (by omega)]
      · simp [h]))
    rw [h1] at this
    exact this
  · intro i hi
    by_cases e : i = j
    · subst e
      rw [h1, h3]
      exact ⟨(Below.heap_setCell _ _ _ _ (by show V.heap.size ≠ sB; omega)).trans e1, e2.other (by show V.heap.size + 1 ≠ sB; omega) _, by omega, by omega⟩
    · rw [h2 i e, h4 i e]
      obtain ⟨q1, q2, q3, q4⟩ := g2 i (by omega)
      have hm : ms i < V.heap.size := (Array.getElem?_eq_some_iff.1 q1).1
      exact ⟨(Below.heap_setCell _ _ _ _ (by show ms i ≠ sB; omega)).trans ((e3.block (ms i) hm).trans q1), (q2.below e3 q2.lt).other (by show rs i ≠ sB; omega) _, q3, q4⟩
  · intro a b ha hb hab
    by_cases ea : a = j
    · by_cases eb : b = j
      · omega
      · rw [ea, h3, h4 b eb]
        have := (g2 b (by omega)).2.1.lt
        omega
    · by_cases eb : b = j
      · rw [eb, h3, h4 a ea]
        have := (g2 a (by omega)).2.1.lt
        omega
      · rw [h4 a ea, h4 b eb]
        exact g3 a b (by omega) (by omega) hab
  · exact (g4.trans (T := fun b => b = sB) (Kept.ofBelow e3) (fun _ _ h => h)).setCell (p := ⟨sB, j, none⟩) (.inl rfl) _

/-- a row of the rule's, as the law reads it -/
theorem row_view {w : World} {v : Value} {f : Nat → Int} {lo L : Nat} (h : RowAt w 25 v (fls f lo L)) :
    ∃ a c, v = .slice a L c ∧ ∀ i, i < L → ∃ b, a = some ⟨b, 0, none⟩ ∧ w.cell? ⟨b, i, none⟩ = some (.float .f64 (floatOfInt .f64 (f (lo + i)))) := by
  have hl := fls_len f lo L
  rcases h with ⟨rfl, he⟩ | ⟨g, cap, cur, rfl, hg, hle, hm, hc, ht⟩
  · have : L = 0 := by rw [← hl, he]; rfl
    subst this
    exact ⟨none, 0, rfl, fun i hi => absurd hi (by omega)⟩
  · rw [hl]
    refine ⟨_, _, rfl, fun i hi => ⟨g, rfl, ?_⟩⟩
    exact RowAt.cell (e := 25) (v := .slice (some ⟨g, 0, none⟩) (fls f lo L).length cap) (.inr ⟨g, cap, cur, rfl, hg, hle, hm, hc, ht⟩) rfl (fls_get f lo L i hi)

theorem law3 (k : FloatKind) (m0 m3 m4 m5 : Nat) (a1 : Option Addr) (n c1 : Nat) (v : Nat → Int) (a2 : Option Addr) (l2 c2 : Nat) (g : Nat → Int) (w : World) (hn : n ≤ 1024) (h0 : m0 ≤ 255) (hk : (m0 % 2 == 0) = isF32 k) (h3 : m3 ≤ 255) (h4 : m4 ≤ 65535) (h5 : m5 ≤ 65535)
    (i1 : IsI w a1 n v) (i2 : IsI w a2 l2 g) (bv : ∀ i, -32768 ≤ v i ∧ v i ≤ 32767) (bg : ∀ i, -32768 ≤ g i ∧ g i ≤ 32767) :
    Calls Yba.prog 3 #[.int .u8 m0, .slice a1 n c1, .slice a2 l2 c2, .int .u8 m3, .int .u16 m4, .int .u16 m5] w fun e w' => e = .returned (.bool true) ∧ Below w.heap.size w w' := by
  have hn' : ¬ (1024 : Int) < (n : Int) := by omega
  have sv : ∀ i, Small (v i) := fun i => by have := bv i; unfold Small; omega
  go_enter Yba.func3, Yba.ntmps3
  go_upto_if 59 with fail
  have e4 : ((m4 : Int) % ((n : Int) + 1)) = ((m4 % (n + 1) : Nat) : Int) := by push_cast; rfl
  have e5 : ((m5 : Int) % ((n : Int) + 1)) = ((m5 % (n + 1) : Nat) : Int) := by push_cast; rfl
  have b4 : m4 % (n + 1) ≤ n := Nat.lt_succ_iff.1 (Nat.mod_lt _ (by omega))
  have b5 : m5 % (n + 1) ≤ n := Nat.lt_succ_iff.1 (Nat.mod_lt _ (by omega))
  rw [e4, e5]
  generalize m4 % (n + 1) = x4 at b4 ⊢
  generalize m5 % (n + 1) = x5 at b5 ⊢
  clear e4 e5 h4 h5
  go_cut [14, 15] from 57 to 61 (fun s14 s15 wx => ∃ lo hi : Nat, lo ≤ hi ∧ hi ≤ n ∧ s14 = .int .i64 lo ∧ s15 = .int .i64 hi ∧ wx = w)
  case first =>
    by_cases hx : (x5 : Int) < (x4 : Int)
    · go_wp2_with fail
      go_meet
      exact ⟨x5, x4, by omega, b4, rfl, rfl, rfl⟩
    · go_wp2_with fail
      go_meet
      exact ⟨x4, x5, by omega, b5, rfl, rfl, rfl⟩
  case rest =>
  obtain ⟨lo, hi, hlo, hhi, rfl, rfl, rfl⟩ := hcut
  clear b4 b5
  have hmk := run_make_row' (P := Yba.prog) 24 25 (.float .f64 0) 8 Yba.underlying24 Yba.info25 rfl .i64 .i64 n (by omega) (by omega)
  obtain ⟨K, hKe⟩ : ∃ K : Nat, K = m3 % 3 := ⟨_, rfl⟩
  have e3 : ((m3 : Int) % 3) = (K : Int) := by rw [hKe]; push_cast; rfl
  have hK : K ≤ 2 := by omega
  clear hKe
  have e0 : ((m0 : Int) % 2 == 0) = isF32 k := by
    rw [← hk]
    have : ((m0 : Int) % 2) = ((m0 % 2 : Nat) : Int) := by push_cast; rfl
    rw [this]
    rcases Nat.mod_two_eq_zero_or_one m0 with h | h <;> rw [h] <;> rfl
  obtain ⟨w, rfl⟩ : ∃ x, x = wc := ⟨_, rfl⟩
  clear hk
  go_wp2_with fail
  clear e3 e0
  clear h0 h3
  -- loop 1
  obtain ⟨gg, hgg⟩ : ∃ f : Nat → Int, f = fun j => if j < l2 then g j else 0 := ⟨_, rfl⟩
  have gg1 : ∀ j, j < l2 → gg j = g j := fun j hj => by rw [hgg]; simp [hj]
  have gg2 : ∀ j, ¬ j < l2 → gg j = 0 := fun j hj => by rw [hgg]; simp [hj]
  have bgg : ∀ j, -32768 ≤ gg j ∧ gg j ≤ 32767 := fun j => by
    by_cases h : j < l2
    · rw [gg1 j h]; exact bg j
    · rw [gg2 j h]; omega
  have sgg : ∀ j, Small (gg j) := fun j => by have := bgg j; unfold Small; omega
  have sd : ∀ j, Small (v j - gg j) := fun j => by have := bgg j; have := bv j; unfold Small; omega
  clear bv bg bgg
  clear hgg
  obtain ⟨A1, A2, A3⟩ := two_made w n
  generalize (w.alloc (.cells (madeCells #[.float .f64 0] n) 25)).alloc (.cells (madeCells #[.float .f64 0] n) 25) = W1 at A1 A2 A3 ⊢
  go_loopw [20] (fun i wr => ∃ x : Nat, x ≤ n ∧ i = .int .i64 x ∧ FR wr .f64 w.heap.size n (fun j => if j < x then v j else 0) ∧ FR wr .f64 (w.heap.size + 1) n (fun j => if j < x then gg j else 0) ∧ Below w.heap.size w wr) (fun i _ => n - (intOf i).toNat)
  case atStart => exact ⟨0, Nat.zero_le _, rfl, A1.none, A2.none, A3⟩
  case round =>
    obtain ⟨x, hx, rfl, f1, f2, f3⟩ := hrel
    clear A1 A2 A3 hn'
    by_cases hlt : x < n
    · have hlt' : (x : Int) < (n : Int) := by omega
      obtain ⟨b1, o1, rfl, hb1, hc1⟩ := i1 x hlt
      have c1 := (f3.cell (p := ⟨b1, o1 + x, none⟩) hb1).trans hc1
      obtain ⟨x1, c3⟩ := f1.some hlt
      have c4 := f1.frozen x
      obtain ⟨x2, c5⟩ := f2.some hlt
      have c6 := f2.frozen x
      have G1 := f1.step
      clear hmk i1 hc1
      by_cases hl2 : x < l2
      · have hl2' : (x : Int) < (l2 : Int) := by omega
        obtain ⟨b2, o2, rfl, hb2, hc2⟩ := i2 x hl2
        have c2 := (f3.cell (p := ⟨b2, o2 + x, none⟩) hb2).trans hc2
        have hb2' : b2 ≠ w.heap.size := by omega
        have G2 := (f2.other (a := ⟨w.heap.size, x, none⟩) (by simp) (.float .f64 (floatOfInt .f64 (v x)))).step
        rw [gg1 x hl2] at G2
        have G3 := G1.other (a := ⟨w.heap.size + 1, x, none⟩) (by simp) (.float .f64 (floatOfInt .f64 (g x)))
        have G4 := (f3.setCell (p := ⟨w.heap.size, x, none⟩) (by simp) (.float .f64 (floatOfInt .f64 (v x)))).setCell (p := ⟨w.heap.size + 1, x, none⟩) (by simp) (.float .f64 (floatOfInt .f64 (g x)))
        clear f1 f2 f3 G1 hc2 i2
        go_wp2
        go_roundw
        case rel => exact ⟨x + 1, by omega, by go_num, G3, G2, G4⟩
        case measure => simp [intOf]; omega
      · have hl2' : ¬ (x : Int) < (l2 : Int) := by omega
        have G2 := (f2.other (a := ⟨w.heap.size, x, none⟩) (by simp) (.float .f64 (floatOfInt .f64 (v x)))).congr (u := fun j => if j < x + 1 then gg j else 0) (fun j hj => by
          by_cases e : j = x
          · subst e; simp [gg2 j hl2]
          · by_cases l : j < x
            · simp [l, Nat.lt_succ_of_lt l]
            · have : ¬ j < x + 1 := by omega
              simp [l, this])
        have G4 := f3.setCell (p := ⟨w.heap.size, x, none⟩) (by simp) (.float .f64 (floatOfInt .f64 (v x)))
        clear f1 f2 f3 i2
        go_wp2
        go_roundw
        case rel => exact ⟨x + 1, by omega, by go_num, G1, G2, G4⟩
        case measure => simp [intOf]; omega
    · have hxn : n = x := by omega
      subst hxn
      obtain ⟨W2, rfl⟩ : ∃ x, x = wr := ⟨_, rfl⟩
      have V1 := f1.all
      have V2 := f2.all
      clear f1 f2 hlt hx
      -- loop 2
      have hmk27 := run_make_row' (P := Yba.prog) 27 24 (.slice none 0 0) 24 Yba.underlying27 Yba.info24 rfl .i64 .i64 K (by omega) (by omega)
      go_wp2
      have T1 := World.rowIs_made W2 (.slice none 0 0) K 24
      have T2 := V1.alloc (.cells (madeCells #[.slice none 0 0] K) 24)
      have T3 := V2.alloc (.cells (madeCells #[.slice none 0 0] K) 24)
      have T4 := f3.alloc f3.size (.cells (madeCells #[.slice none 0 0] K) 24)
      have T5 : (W2.alloc (.cells (madeCells #[.slice none 0 0] K) 24)).heap.size = W2.heap.size + 1 := by simp
      have T6 : w.heap.size + 1 < W2.heap.size := V2.lt
      generalize W2.alloc (.cells (madeCells #[.slice none 0 0] K) 24) = W3 at T1 T2 T3 T4 T5 ⊢
      clear f3 V1 V2 hmk27
      generalize W2.heap.size = tS at T1 T5 T6 ⊢
      go_loopw [22] (fun i wr => ∃ j : Nat, j ≤ K ∧ i = .int .i64 j ∧ ∃ tr : Nat → Nat, wr.rowIs tS 24 K (fun i => if i < j then .slice (some ⟨tr i, 0, none⟩) n n else .slice none 0 0) ∧
        (∀ i, i < j → FR wr .f64 (tr i) n (stv i) ∧ W3.heap.size ≤ tr i) ∧ Kept (fun b => b = tS) W3 wr) (fun i _ => K - (intOf i).toNat)
      case atStart => exact ⟨0, Nat.zero_le _, rfl, fun _ => 0, T1.congr (fun i hi => by simp), fun i hi => absurd hi (by omega), Kept.refl _ _⟩
      case round =>
        obtain ⟨j, hj, rfl, tr, g1, g2, g4⟩ := hrel
        obtain ⟨V, rfl⟩ : ∃ x, x = wr := ⟨_, rfl⟩
        have hV := g4.size
        by_cases hlt : j < K
        · have hlt' : (j : Int) < (K : Int) := by omega
          obtain ⟨x0, c3⟩ : ∃ x, V.cell? ⟨tS, j, none⟩ = some x := ⟨_, g1.cell hlt⟩
          have c4 := g1.frozen j
          have htV : tS < V.heap.size := by omega
          go_wp2
          obtain ⟨tr', r0, r0', R1, R2, R3, R4⟩ := row_laid (n := n) hlt (by omega) g1 g2 g4
          generalize (V.setCell ⟨tS, j, none⟩ (.slice (some ⟨V.heap.size, 0, none⟩) n n)).alloc (.cells (madeCells #[.float .f64 0] n) 25) = V1 at R1 R2 R3 R4 ⊢
          have c1 := R1.cell hlt
          rw [if_pos (by omega), r0] at c1
          clear g1 g2 g4 c3 c4 r0'
          obtain ⟨rB, hrB⟩ : ∃ x, x = V.heap.size := ⟨_, rfl⟩
          rw [← hrB] at R2 R3 c1 htV hV r0 ⊢
          clear hrB
          go_loopw [23] (fun i wr => ∃ x : Nat, x ≤ n ∧ i = .int .i64 x ∧ FR wr .f64 rB n (fun y => if y < x then stv j y else 0) ∧ Kept (fun b => b = rB) V1 wr) (fun i _ => n - (intOf i).toNat)
          case atStart => exact ⟨0, Nat.zero_le _, rfl, R2.none, Kept.refl _ _⟩
          case round =>
            obtain ⟨x, hx, rfl, f1, f2⟩ := hrel
            by_cases hxn : x < n
            · have hxn' : (x : Int) < (n : Int) := by omega
              have c1' : wr.cell? ⟨tS, j, none⟩ = some (.slice (some ⟨rB, 0, none⟩) n n) := (World.cell?_of_block (w := V1) (f2.block tS R1.lt (by omega))).trans c1
              obtain ⟨x0, c3⟩ := f1.some hxn
              have c4 := f1.frozen x
              have G1 := f1.step
              rw [stv_eq j x (by omega) (by omega)] at G1
              have G2 := f2.setCell (p := ⟨rB, x, none⟩) (.inl rfl) (.float .f64 (floatOfInt .f64 ((j : Int) * 2000 + (x : Int))))
              clear f1 f2 R1 R2 R3 R4 c1 hmk
              go_wp2
              go_roundw
              case rel => exact ⟨x + 1, by omega, by go_num, G1, G2⟩
              case measure => simp [intOf]; omega
            · have hxe : n = x := by omega
              subst hxe
              have G1 := f1.all
              have H1 := R1.of_block (f2.block tS R1.lt (by omega))
              have H2 : ∀ i, i < j + 1 → FR wr .f64 (tr' i) n (stv i) ∧ W3.heap.size ≤ tr' i := by
                intro i hi
                by_cases e : i = j
                · subst e; rw [r0]; exact ⟨G1, hV⟩
                · obtain ⟨q1, q2, q3⟩ := R3 i (by omega)
                  exact ⟨q1.kept (f2.block (tr' i) q1.lt (by omega)), q2⟩
              have H4 := R4.trans f2 (fun y hy h => by omega)
              clear f1 f2 R1 R2 R3 R4 G1 c1
              go_wp2
              go_roundw
              case rel => exact ⟨j + 1, by omega, by go_num, tr', H1, H2, H4⟩
              case measure => simp [intOf]; omega
        · have hjK : K = j := by omega
          subst hjK
          have B3 := g1.congr (g := fun i => .slice (some ⟨tr i, 0, none⟩) n n) (fun i hi => by simp [hi])
          have B1 := T2.kept (g4.block w.heap.size (by omega) (by omega))
          have B2 := T3.kept (g4.block (w.heap.size + 1) (by omega) (by omega))
          have B5 := T4.trans (g4.below (B := w.heap.size) (by omega) (fun x hx => by omega))
          clear g1 T1 T2 T3 T4 g4
          -- the three matrices
          have E0 : V.heap.size ≤ V.heap.size := Nat.le_refl _
          have hvs : ∀ i, i < n → Small (v i) := fun i _ => sv i
          have hgs : ∀ i, i < n → Small (gg i) := fun i _ => sgg i
          go_wp2_with fail
          refine (mat5 k w.heap.size n v V hn hvs B1).mono ?_
          rintro e W5 ⟨rfl, m1, m2, m3⟩
          go_wp2_with fail
          refine (mat5 k (w.heap.size + 1) n gg W5 hn hgs (B2.below m3 B2.lt)).mono ?_
          rintro e W6 ⟨rfl, m4, m5, m6⟩
          go_wp2_with fail
          refine (mat5 k W6.heap.size n (fun _ => 0) _ hn (fun i _ => by unfold Small; decide) (FR.made W6 .f64 n)).mono ?_
          rintro e W8 ⟨rfl, m7, m8, m9⟩
          have hsz : (W6.alloc (.cells (madeCells #[.float .f64 0] n) 25)).heap.size = W6.heap.size + 1 := by simp
          change Below (W6.alloc (.cells (madeCells #[.float .f64 0] n) 25)).heap.size (W6.alloc (.cells (madeCells #[.float .f64 0] n) 25)) W8 at m9
          have m10 : Below W6.heap.size W6 W8 := ((Below.refl _ _).alloc (Nat.le_refl _) _).trans (m9.mono (by omega))
          change W8.heap[(W6.alloc (.cells (madeCells #[.float .f64 0] n) 25)).heap.size]? = some (.cells (matR k n ((W6.alloc (.cells (madeCells #[.float .f64 0] n) 25)).heap.size + 1)) 58 (0, 0)) at m7
          change FR W8 k ((W6.alloc (.cells (madeCells #[.float .f64 0] n) 25)).heap.size + 1) n (fun _ => 0) at m8
          rw [hsz] at m7 m8
          have s5 := m3.size
          have s6 := m6.size
          have s8 := m10.size
          have l5 := m2.lt
          have l6 := m5.lt
          have l8 := m8.lt
          have n1 : W8.heap[V.heap.size]? = some (.cells (matR k n (V.heap.size + 1)) 58 (0, 0)) := (m10.block _ (by omega)).trans ((m6.block _ (by omega)).trans m1)
          have n2 : FR W8 k (V.heap.size + 1) n v := (m2.below m6 l5).below m10 (by omega)
          have n3 : W8.heap[W5.heap.size]? = some (.cells (matR k n (W5.heap.size + 1)) 58 (0, 0)) := (m10.block _ (by omega)).trans m4
          have n4 : FR W8 k (W5.heap.size + 1) n gg := m5.below m10 l6
          have n5 : Below V.heap.size V W8 := m3.trans ((m6.mono s5).trans (m10.mono (by omega)))
          have hmk30 := run_make_row' (P := Yba.prog) 30 28 (.pointer none) 8 Yba.underlying30 Yba.info28 rfl .i64 .i64 K (by omega) (by omega)
          clear m1 m2 m3 m4 m5 m6 m9 m10 hsz hvs hgs hmk E0
          go_wp2
          have q1 := World.rowIs_made W8 (.pointer none) K 28
          have q2 : (W8.alloc (.cells (madeCells #[.pointer none] K) 28)).heap.size = W8.heap.size + 1 := by simp
          have q3 : Kept (fun _ => False) W8 (W8.alloc (.cells (madeCells #[.pointer none] K) 28)) := (Kept.refl _ _).alloc _
          generalize W8.alloc (.cells (madeCells #[.pointer none] K) 28) = X at q1 q2 q3 ⊢
          go_loopw [28] (fun i wr => ∃ j : Nat, j ≤ K ∧ i = .int .i64 j ∧ ∃ ms rs : Nat → Nat, wr.rowIs W8.heap.size 28 K (fun i => if i < j then .pointer (some ⟨ms i, 0, none⟩) else .pointer none) ∧
            (∀ i, i < j → wr.heap[ms i]? = some (.cells (matR k n (rs i)) 58 (0, 0)) ∧ FR wr k (rs i) n (stv i) ∧ X.heap.size ≤ ms i ∧ X.heap.size ≤ rs i) ∧ (∀ a b, a < j → b < j → a ≠ b → rs a ≠ rs b) ∧ Kept (fun b => b = W8.heap.size) X wr) (fun i _ => K - (intOf i).toNat)
          case atStart => exact ⟨0, Nat.zero_le _, rfl, fun _ => 0, fun _ => 0, q1.congr (fun i hi => by simp), fun i hi => absurd hi (by omega), fun a b hi => absurd hi (by omega), Kept.refl _ _⟩
          case round =>
            obtain ⟨j, hj, rfl, ms, rs, g1, g3, g4, g5⟩ := hrel
            obtain ⟨U, rfl⟩ : ∃ x, x = wr := ⟨_, rfl⟩
            have hVU : Below V.heap.size V U := n5.trans ((q3.below (B := V.heap.size) (by omega) (fun x h => h.elim)).trans (g5.below (B := V.heap.size) (by omega) (fun x h => by omega)))
            by_cases hlt : j < K
            · have hlt' : (j : Int) < (K : Int) := by omega
              obtain ⟨t1, t2⟩ := g2 j hlt
              have c1 := (B3.of_block (hVU.block tS B3.lt)).cell hlt
              go_wp2_with fail
              refine (mat5 k (tr j) n (stv j) U hn (fun i _ => stv_small j i) (t1.below hVU t1.lt)).mono ?_
              rintro e U' ⟨rfl, e1, e2, e3⟩
              have hsl := g1.lt
              have g1' := g1.of_block (e3.block _ hsl)
              obtain ⟨x0, c3⟩ : ∃ x, U'.cell? ⟨W8.heap.size, j, none⟩ = some x := ⟨_, g1'.cell hlt⟩
              have c4 := g1'.frozen j
              obtain ⟨ms', rs', G1, G2, G3, G4⟩ := state_laid hlt q2 g1 g3 g4 g5 e1 e2 e3
              clear g1 g3 g4 g5 e1 e2 e3 g1' c1
              go_wp2
              go_roundw
              case rel => exact ⟨j + 1, by omega, by go_num, ms', rs', G1, G2, G3, G4⟩
              case measure => simp [intOf]; omega
            · have hjK : K = j := by omega
              subst hjK
              have g1' := g1.congr (g := fun i => .pointer (some ⟨ms i, 0, none⟩)) (fun i hi => by simp [hi])
              have hWU : Below W8.heap.size W8 U := (q3.below (B := W8.heap.size) (by omega) (fun x h => h.elim)).trans (g5.below (B := W8.heap.size) (by omega) (fun x h => by omega))
              have sU := hWU.size
              have hYq : (U.alloc (.cells (ruleC 0 0 (.slice none 0 0) (.slice none 0 0) (.slice none 0 0)) 33)).heap[U.heap.size]? = some (.cells (ruleC 0 0 (.slice none 0 0) (.slice none 0 0) (.slice none 0 0)) 33 (0, 0)) := Go.Deep.blk_alloc_new _ _
              have hY : Below U.heap.size U (U.alloc (.cells (ruleC 0 0 (.slice none 0 0) (.slice none 0 0) (.slice none 0 0)) 33)) := (Below.refl _ _).alloc (Nat.le_refl _) _
              have hWY : Below W8.heap.size W8 (U.alloc (.cells (ruleC 0 0 (.slice none 0 0) (.slice none 0 0) (.slice none 0 0)) 33)) := hWU.trans (hY.mono sU)
              have o1 := (hWY.block _ (by omega)).trans n1
              have o2 := n2.below hWY (by omega)
              have o3 := (hWY.block _ (by omega)).trans n3
              have o4 := n4.below hWY (by omega)
              have o5 := (hWY.block _ (by omega)).trans m7
              have o6 := m8.below hWY l8
              have o7 := g1'.of_block (hY.block _ g1'.lt)
              have o8 : ∀ j, j < K → (U.alloc (.cells (ruleC 0 0 (.slice none 0 0) (.slice none 0 0) (.slice none 0 0)) 33)).heap[ms j]? = some (.cells (matR k n (rs j)) 58 (0, 0)) := fun j hj => (hY.block _ (Array.getElem?_eq_some_iff.1 (g3 j hj).1).1).trans (g3 j hj).1
              have o9 : ∀ j, j < K → FR (U.alloc (.cells (ruleC 0 0 (.slice none 0 0) (.slice none 0 0) (.slice none 0 0)) 33)) k (rs j) n (stv j) := fun j hj => (g3 j hj).2.1.below hY (g3 j hj).2.1.lt
              have p1 : ∀ j, j < K → rs j ≠ W6.heap.size + 1 + 1 ∧ rs j ≠ V.heap.size + 1 ∧ rs j ≠ W5.heap.size + 1 := fun j hj => by
                have := (g3 j hj).2.2.2
                omega
              have call6 := run6 k U.heap.size W8.heap.size (W6.heap.size + 1) V.heap.size W5.heap.size (W6.heap.size + 1 + 1) (V.heap.size + 1) (W5.heap.size + 1) K n lo hi ms rs (fun _ => 0) v gg stv _ hn hK hlo hhi hYq o5 o1 o3 o7 o8 o6 o2 o4 o9 sv sgg sd stv_small stv_small1 (by omega) (by omega) p1 g4
              go_wp2_with fail
              refine call6.mono ?_
              rintro e Z ⟨rfl, vp, vg, sB, vs, z1, z2, z3, z4, z5, z6, z7, z8⟩
              -- what holds behind the step
              have hin : ∀ x, x < W8.heap.size → x ≠ W6.heap.size + 1 + 1 → ¬ (x = U.heap.size ∨ x = W6.heap.size + 1 + 1 ∨ ∃ j, j < K ∧ x = rs j) := fun x hx hne => by
                rintro (e | e | ⟨j, hj, e⟩)
                · omega
                · exact hne e
                · have := (g3 j hj).2.2.2; omega
              have hYs : (U.alloc (.cells (ruleC 0 0 (.slice none 0 0) (.slice none 0 0) (.slice none 0 0)) 33)).heap.size = U.heap.size + 1 := by simp
              have hk8 : ∀ x, x < W8.heap.size → x ≠ W6.heap.size + 1 + 1 → Z.heap[x]? = W8.heap[x]? := fun x hx hne => (z8.block x (by omega) (hin x hx hne)).trans (hWY.block x hx)
              have hkV : ∀ x, x < V.heap.size → Z.heap[x]? = V.heap[x]? := fun x hx => (hk8 x (by omega) (by omega)).trans (n5.block x hx)
              have F1 := (hk8 _ (by omega) (by omega)).trans m7
              have F3 := (hk8 _ (by omega) (by omega)).trans n1
              have F3' := n2.kept (hk8 _ (by omega) (by omega))
              have F4 := (hk8 _ (by omega) (by omega)).trans n3
              have F4' := n4.kept (hk8 _ (by omega) (by omega))
              have F5 := o7.of_block (z8.block _ o7.lt (by
                rintro (e | e | ⟨j, hj, e⟩)
                · have := g1'.lt; omega
                · omega
                · have := (g3 j hj).2.2.2; omega))
              have F5' : ∀ j, j < K → Z.heap[ms j]? = some (.cells (matR k n (rs j)) 58 (0, 0)) := fun j hj => by
                obtain ⟨t1, t2, t3, t4⟩ := g3 j hj
                have hm : ms j < U.heap.size := (Array.getElem?_eq_some_iff.1 t1).1
                refine (z8.block _ (by omega) ?_).trans (o8 j hj)
                rintro (e | e | ⟨i, hi, e⟩)
                · omega
                · omega
                · obtain ⟨c, hc, _⟩ := (g3 i hi).2.1
                  rw [e, hc] at t1
                  simp at t1
                  cases k <;> exact absurd t1.2 (by decide)
              have F6 := B1.kept (hkV _ B1.lt)
              have F6' := B2.kept (hkV _ B2.lt)
              have F7 := B3.of_block (hkV _ B3.lt)
              have F7' : ∀ j, j < K → FR Z .f64 (tr j) n (stv j) := fun j hj => (g2 j hj).1.kept (hkV _ (g2 j hj).1.lt)
              have hVS := B5.size
              have F8 : Below w.heap.size w Z := B5.trans ((hVU.mono hVS).trans ((hY.mono (by omega)).trans (z8.below (B := w.heap.size) (by omega) (fun x hx => by
                rcases hx with e | e | ⟨j, hj, e⟩
                · omega
                · omega
                · have := (g3 j hj).2.2.2; omega))))
              generalize U.heap.size = q at z1 ⊢
              generalize W6.heap.size + 1 + 1 = yr at z6 F1 ⊢
              generalize W6.heap.size + 1 = ym at F1 ⊢
              generalize W5.heap.size + 1 = gr at F4 F4' ⊢
              generalize W5.heap.size = gm at F4 ⊢
              generalize V.heap.size + 1 = vr at F3 F3' ⊢
              generalize V.heap.size = vm at F3 ⊢
              generalize W8.heap.size = stB at F5 ⊢
              clear z8 hin hYs hk8 hkV call6 p1 o1 o2 o3 o4 o5 o6 o7 o8 o9 hWY hY hYq sU hWU g1' hlt g3 g1 hj g4 hVU g5 q3 q2 q1 hmk30 n1 n2 n3 n4 n5 l5 l6 l8 s5 s6 s8 m7 m8 B1 B2 B3 B5 g2 hV T5 T6 gg1 gg2 i1 i2 hVS
              obtain ⟨L, hL⟩ : ∃ L, L = hi - lo := ⟨_, rfl⟩
              rw [← hL] at z2 z3 z5
              have eL : (hi : Int) - (lo : Int) = (L : Int) := by omega
              have hL1 : lo + L ≤ hi := by omega
              have hL2 : hi ≤ lo + L := by omega
              clear hL
              obtain ⟨pa, pc, rfl, pcell⟩ := row_view z2
              obtain ⟨ga, gc, rfl, gcell⟩ := row_view z3
              have q2 : Z.cell? ⟨q, 2, none⟩ = some (.slice pa L pc) := by rw [cell_of_blk z1]; rfl
              have q3 : Z.cell? ⟨q, 3, none⟩ = some (.slice ga L gc) := by rw [cell_of_blk z1]; rfl
              have q4 : Z.cell? ⟨q, 4, none⟩ = some (.slice (some ⟨sB, 0, none⟩) K K) := by rw [cell_of_blk z1]; rfl
              go_upto_if 162 with fail
              go_cut [] from 162 to 186 (fun wx => wx = Z)
              case first =>
                cases k
                · have q0 : Z.cell? ⟨q, 0, none⟩ = some (.int .i64 1) := by rw [cell_of_blk z1]; rfl
                  have q1 : Z.cell? ⟨q, 1, none⟩ = some (.int .i64 0) := by rw [cell_of_blk z1]; rfl
                  have ek : isF32 .f32 = true := rfl
                  go_wp2_with fail
                  go_meet
                  rfl
                · have q0 : Z.cell? ⟨q, 0, none⟩ = some (.int .i64 0) := by rw [cell_of_blk z1]; rfl
                  have q1 : Z.cell? ⟨q, 1, none⟩ = some (.int .i64 1) := by rw [cell_of_blk z1]; rfl
                  have ek : isF32 .f64 = false := rfl
                  go_wp2_with fail
                  go_meet
                  rfl
              case rest =>
              obtain rfl := hcut
              obtain ⟨Z, rfl⟩ : ∃ x, x = wc := ⟨_, rfl⟩
              clear z1 z2 z3
              -- loop 5
              go_wp2_with fail
              go_loopw [31] (fun i wr => ∃ x : Nat, x ≤ L ∧ i = .int .i64 x ∧ ∃ d, wr = Z.drewN d) (fun i _ => L - (intOf i).toNat)
              case atStart => exact ⟨0, Nat.zero_le _, rfl, 0, rfl⟩
              case round =>
                obtain ⟨x, hx, rfl, d, rfl⟩ := hrel
                by_cases hlt : x < L
                · have hlt' : (x : Int) < (L : Int) := by omega
                  obtain ⟨pb, rfl, c1⟩ := pcell x hlt
                  obtain ⟨gb, rfl, c2⟩ := gcell x hlt
                  have c3 := F6.cell (i := lo + x) (by omega)
                  have c4 := F6'.cell (i := lo + x) (by omega)
                  have ne1 := neq_whole .f64 (v (lo + x)) (sv _)
                  have ne2 := neq_whole .f64 (gg (lo + x)) (sgg _)
                  have b1 : (lo : Int) + (x : Int) < (n : Int) := by omega
                  clear pcell gcell F1 F3 F3' F4 F4' F5 F5' F6 F6' F7 F7' F8 z4 z5 z6 z7 eL
                  go_wp2_with fail
                  go_quiet (fail)
                  go_wp2_with fail
                  go_roundw
                  case rel => exact ⟨x + 1, by omega, by go_num, _, rfl⟩
                  case measure => simp [intOf]; omega
                · have hxL : L = x := by omega
                  subst hxL
                  clear pcell gcell q2 q3 hx hlt
                  -- loops 6, 7
                  go_wp2_with fail
                  go_loopw [32] (fun i wr => ∃ j : Nat, j ≤ K ∧ i = .int .i64 j ∧ ∃ d, wr = Z.drewN d) (fun i _ => K - (intOf i).toNat)
                  case atStart => exact ⟨0, Nat.zero_le _, rfl, _, rfl⟩
                  case round =>
                    obtain ⟨j, hj, rfl, d1, rfl⟩ := hrel
                    by_cases hlt : j < K
                    · have hlt' : (j : Int) < (K : Int) := by omega
                      obtain ⟨sa, sc, hvs, scell⟩ := row_view (z5 j hlt)
                      have c1 : Z.cell? ⟨sB, j, none⟩ = some (.slice sa L sc) := (z4.cell hlt).trans (by rw [hvs])
                      have c2 := F7.cell hlt
                      have c5 := F7' j hlt
                      clear hvs
                      go_wp2_with fail
                      go_loopw [33] (fun i wr => ∃ x : Nat, x ≤ L ∧ i = .int .i64 x ∧ ∃ d, wr = Z.drewN d) (fun i _ => L - (intOf i).toNat)
                      case atStart => exact ⟨0, Nat.zero_le _, rfl, _, rfl⟩
                      case round =>
                        obtain ⟨x, hx, rfl, d2, rfl⟩ := hrel
                        by_cases hxl : x < L
                        · have hxl' : (x : Int) < (L : Int) := by omega
                          obtain ⟨sb, rfl, c3⟩ := scell x hxl
                          have c4 := c5.cell (i := lo + x) (by omega)
                          have ne1 := neq_whole .f64 (stv j (lo + x)) (stv_small _ _)
                          have b1 : (lo : Int) + (x : Int) < (n : Int) := by omega
                          clear scell F1 F3 F3' F4 F4' F5 F5' F6 F6' F7 F7' F8 z4 z5 z6 z7 eL c5
                          go_wp2_with fail
                          go_quiet (fail)
                          go_wp2_with fail
                          go_roundw
                          case rel => exact ⟨x + 1, by omega, by go_num, _, rfl⟩
                          case measure => simp [intOf]; omega
                        · have hxL : L = x := by omega
                          subst hxL
                          go_wp2_with fail
                          go_roundw
                          case rel => exact ⟨j + 1, by omega, by go_num, _, rfl⟩
                          case measure => simp [intOf]; omega
                    · have hjK : K = j := by omega
                      subst hjK
                      -- the three matrices, read back
                      have f1 : (Z.drewN d1).heap[ym]? = _ := F1
                      have f2 : FR (Z.drewN d1) k yr n (fun i => if lo ≤ i ∧ i < hi then v i - gg i else 0) := z6
                      have f3 : (Z.drewN d1).heap[vm]? = _ := F3
                      have f4 : FR (Z.drewN d1) k vr n v := F3'
                      have f5 : (Z.drewN d1).heap[gm]? = _ := F4
                      have f6 : FR (Z.drewN d1) k gr n gg := F4'
                      have f7 : (Z.drewN d1).rowIs stB 28 K (fun i => .pointer (some ⟨ms i, 0, none⟩)) := F5
                      have f8 : ∀ j, j < K → (Z.drewN d1).heap[ms j]? = some (.cells (matR k n (rs j)) 58 (0, 0)) := F5'
                      have f9 : ∀ j, j < K → FR (Z.drewN d1) k (rs j) n (fun i => if lo ≤ i ∧ i < hi then stv j i + 1 else stv j i) := z7
                      have f10 : FR (Z.drewN d1) .f64 w.heap.size n v := F6
                      have f11 : FR (Z.drewN d1) .f64 (w.heap.size + 1) n gg := F6'
                      have f12 : (Z.drewN d1).rowIs tS 24 K (fun i => .slice (some ⟨tr i, 0, none⟩) n n) := F7
                      have f13 : ∀ j, j < K → FR (Z.drewN d1) .f64 (tr j) n (stv j) := F7'
                      have f14 : Below w.heap.size w (Z.drewN d1) := ⟨F8.os, F8.tape, F8.output, F8.size, F8.block⟩
                      clear F1 F3 F3' F4 F4' F5 F5' F6 F6' F7 F7' F8 z4 z5 z6 z7 q4 hlt hj
                      go_wp2_with fail
                      generalize Z.drewN d1 = Y0 at f1 f2 f3 f4 f5 f6 f7 f8 f9 f10 f11 f12 f13 f14 ⊢
                      refine (get7 k ym yr n _ Y0 hn (fun i _ => by
                        by_cases h : lo ≤ i ∧ i < hi
                        · rw [if_pos h]; exact sd i
                        · rw [if_neg h]; unfold Small; decide) f1 f2).mono ?_
                      rintro e Y1 ⟨rfl, a1', a2'⟩
                      go_wp2_with fail
                      refine (get7 k vm vr n v Y1 hn (fun i _ => sv i) ((a2'.block _ (Array.getElem?_eq_some_iff.1 f3).1).trans f3) (f4.below a2' f4.lt)).mono ?_
                      rintro e Y2 ⟨rfl, a3', a4'⟩
                      have h12 := a2'.trans (a4'.mono a2'.size)
                      go_wp2_with fail
                      refine (get7 k gm gr n gg Y2 hn (fun i _ => sgg i) ((h12.block _ (Array.getElem?_eq_some_iff.1 f5).1).trans f5) (f6.below h12 f6.lt)).mono ?_
                      rintro e Y3 ⟨rfl, a5', a6'⟩
                      have h03 := h12.trans (a6'.mono h12.size)
                      have h13 := a4'.trans (a6'.mono a4'.size)
                      have y1 := a1'.below h13 a1'.lt
                      have y2 := a3'.below a6' a3'.lt
                      have k7 := f7.of_block (h03.block _ f7.lt)
                      have k8 : ∀ j, j < K → Y3.heap[ms j]? = some (.cells (matR k n (rs j)) 58 (0, 0)) := fun j hj => (h03.block _ (Array.getElem?_eq_some_iff.1 (f8 j hj)).1).trans (f8 j hj)
                      have k9 : ∀ j, j < K → FR Y3 k (rs j) n (fun i => if lo ≤ i ∧ i < hi then stv j i + 1 else stv j i) := fun j hj => (f9 j hj).below h03 (f9 j hj).lt
                      have k10 := f10.below h03 f10.lt
                      have k11 := f11.below h03 f11.lt
                      have k12 := f12.of_block (h03.block _ f12.lt)
                      have k13 : ∀ j, j < K → FR Y3 .f64 (tr j) n (stv j) := fun j hj => (f13 j hj).below h03 (f13 j hj).lt
                      have k14 := f14.trans (h03.mono f14.size)
                      clear f1 f2 f3 f4 f5 f6 f7 f8 f9 f10 f11 f12 f13 f14 a1' a2' a3' a4' a6' h12 h03 h13
                      generalize Y0.heap.size = yS at y1 ⊢
                      generalize Y1.heap.size = vS at y2 ⊢
                      generalize Y2.heap.size = gS at a5' ⊢
                      -- loop 8
                      go_wp2_with fail
                      go_loopw [37] (fun i wr => ∃ x : Nat, x ≤ n ∧ i = .int .i64 x ∧ ∃ d, wr = Y3.drewN d) (fun i _ => n - (intOf i).toNat)
                      case atStart => exact ⟨0, Nat.zero_le _, rfl, 0, rfl⟩
                      case round =>
                        obtain ⟨x, hx, rfl, d2, rfl⟩ := hrel
                        by_cases hxl : x < n
                        · have hxl' : (x : Int) < (n : Int) := by omega
                          have c1 := y1.cell hxl
                          have c2 := y2.cell hxl
                          have c3 := a5'.cell hxl
                          have c4 := k10.cell hxl
                          have c5 := k11.cell hxl
                          have ne1 := neq_whole .f64 (v x) (sv _)
                          have ne2 := neq_whole .f64 (gg x) (sgg _)
                          have ne3 := neq_whole .f64 (v x - gg x) (sd _)
                          have ne4 : (FloatKind.f64.format.order 0 0 != some .eq) = false := by decide
                          have sb := sub_two .f64 25 (v x) (gg x) (sv _) (sgg _) (sd _)
                          clear y1 y2 a5' k7 k8 k9 k10 k11 k12 k13 k14 eL
                          by_cases h1 : (lo : Int) ≤ (x : Int)
                          · by_cases h2 : (x : Int) < (hi : Int)
                            · rw [if_pos (by omega)] at c1
                              go_wp2_with fail
                              go_quiet (fail)
                              go_wp2_with fail
                              go_quiet (fail)
                              go_wp2_with fail
                              go_roundw
                              case rel => exact ⟨x + 1, by omega, by go_num, _, rfl⟩
                              case measure => simp [intOf]; omega
                            · rw [if_neg (by omega), floatOfInt_zero] at c1
                              go_wp2_with fail
                              go_quiet (fail)
                              go_wp2_with fail
                              go_roundw
                              case rel => exact ⟨x + 1, by omega, by go_num, _, rfl⟩
                              case measure => simp [intOf]; omega
                          · rw [if_neg (by omega), floatOfInt_zero] at c1
                            go_wp2_with fail
                            go_quiet (fail)
                            go_wp2_with fail
                            go_roundw
                            case rel => exact ⟨x + 1, by omega, by go_num, _, rfl⟩
                            case measure => simp [intOf]; omega
                        · have hxn : n = x := by omega
                          subst hxn
                          clear y1 y2 a5' k10 k11
                          go_wp2_with fail
                          have e7 : (Y3.drewN d2).rowIs stB 28 K (fun i => .pointer (some ⟨ms i, 0, none⟩)) := k7
                          have e8 : ∀ j, j < K → (Y3.drewN d2).heap[ms j]? = some (.cells (matR k n (rs j)) 58 (0, 0)) := k8
                          have e9 : ∀ j, j < K → FR (Y3.drewN d2) k (rs j) n (fun i => if lo ≤ i ∧ i < hi then stv j i + 1 else stv j i) := k9
                          have e12 : (Y3.drewN d2).rowIs tS 24 K (fun i => .slice (some ⟨tr i, 0, none⟩) n n) := k12
                          have e13 : ∀ j, j < K → FR (Y3.drewN d2) .f64 (tr j) n (stv j) := k13
                          have e14 : Below w.heap.size w (Y3.drewN d2) := ⟨k14.os, k14.tape, k14.output, k14.size, k14.block⟩
                          clear k7 k8 k9 k12 k13 k14
                          generalize Y3.drewN d2 = Y4 at e7 e8 e9 e12 e13 e14 ⊢
                          -- loops 9, 10
                          go_loopw [39] (fun i wr => ∃ j : Nat, j ≤ K ∧ i = .int .i64 j ∧ Below Y4.heap.size Y4 wr) (fun i _ => K - (intOf i).toNat)
                          case atStart => exact ⟨0, Nat.zero_le _, rfl, Below.refl _ _⟩
                          case round =>
                            obtain ⟨j, hj, rfl, hb⟩ := hrel
                            obtain ⟨T, rfl⟩ : ∃ x, x = wr := ⟨_, rfl⟩
                            by_cases hlt : j < K
                            · have hlt' : (j : Int) < (K : Int) := by omega
                              have c1 := (e7.of_block (hb.block _ e7.lt)).cell hlt
                              have g1 := (hb.block _ (Array.getElem?_eq_some_iff.1 (e8 j hlt)).1).trans (e8 j hlt)
                              have g2 := (e9 j hlt).below hb (e9 j hlt).lt
                              go_wp2_with fail
                              refine (get7 k (ms j) (rs j) n _ T hn (fun i _ => by
                                by_cases h : lo ≤ i ∧ i < hi
                                · rw [if_pos h]; exact stv_small1 j i
                                · rw [if_neg h]; exact stv_small j i) g1 g2).mono ?_
                              rintro e T1 ⟨rfl, g3, g4⟩
                              have hb1 := hb.trans (g4.mono hb.size)
                              have r1 := (e12.of_block (hb1.block _ e12.lt)).cell hlt
                              have r2 := (e13 j hlt).below hb1 (e13 j hlt).lt
                              clear g1 g2 g4 c1 hb
                              generalize T.heap.size = tG at g3 ⊢
                              go_wp2_with fail
                              go_loopw [41] (fun i wr => ∃ x : Nat, x ≤ n ∧ i = .int .i64 x ∧ wr = T1) (fun i _ => n - (intOf i).toNat)
                              case atStart => exact ⟨0, Nat.zero_le _, rfl, rfl⟩
                              case round =>
                                obtain ⟨x, hx, rfl, rfl⟩ := hrel
                                by_cases hxl : x < n
                                · have hxl' : (x : Int) < (n : Int) := by omega
                                  have c2 := g3.cell hxl
                                  have c3 := r2.cell hxl
                                  have ne1 := neq_whole .f64 (stv j x) (stv_small _ _)
                                  have ne2 := neq_whole .f64 (stv j x + 1) (stv_small1 _ _)
                                  have ad := add_one .f64 25 (stv j x) (stv_small _ _) (stv_small1 _ _)
                                  rw [one64] at ad
                                  clear g3 r2 e7 e8 e9 e12 e13 e14 hb1 eL
                                  by_cases h1 : (lo : Int) ≤ (x : Int)
                                  · by_cases h2 : (x : Int) < (hi : Int)
                                    · rw [if_pos (by omega)] at c2
                                      go_wp2_with fail
                                      go_roundw
                                      case rel => exact ⟨x + 1, by omega, by go_num, trivial⟩
                                      case measure => simp [intOf]; omega
                                    · rw [if_neg (by omega)] at c2
                                      go_wp2_with fail
                                      go_roundw
                                      case rel => exact ⟨x + 1, by omega, by go_num, trivial⟩
                                      case measure => simp [intOf]; omega
                                  · rw [if_neg (by omega)] at c2
                                    go_wp2_with fail
                                    go_roundw
                                    case rel => exact ⟨x + 1, by omega, by go_num, trivial⟩
                                    case measure => simp [intOf]; omega
                                · have hxn : n = x := by omega
                                  subst hxn
                                  go_wp2_with fail
                                  go_roundw
                                  case rel => exact ⟨j + 1, by omega, by go_num, hb1⟩
                                  case measure => simp [intOf]; omega
                            · have hjK : K = j := by omega
                              subst hjK
                              have hfin := e14.trans (hb.mono e14.size)
                              go_wp2_with fail
                              go_ret
                              exact ⟨rfl, hfin⟩

/-- the law, long rows -/
theorem law3_long (m0 m3 m4 m5 : Int) (a1 : Option Addr) (n c1 : Nat) (a2 : Option Addr) (l2 c2 : Nat) (w : World) (hn : (1024 : Int) < (n : Int)) :
    Calls Yba.prog 3 #[.int .u8 m0, .slice a1 n c1, .slice a2 l2 c2, .int .u8 m3, .int .u16 m4, .int .u16 m5] w fun e w' => e = .returned (.bool true) ∧ Below w.heap.size w w' := by
  go_enter Yba.func3, Yba.ntmps3
  go_wp2_with fail
  go_ret
  exact ⟨rfl, Below.refl _ _⟩
end Go.Proofs.Ybulkbxne
