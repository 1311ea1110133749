/-
  WHOLE NUMBERS AS FLOATS: for |n| < 2^17 the float of a whole number is exact in both formats: conversions, sums and differences of such floats are the floats of the whole numbers. Plain facts of the float arithmetic, of no program.
-/
import Derived.Laws.FloatArith
namespace Go.Proofs.WholeFloat
open Ieee

theorem shift_ne {x : Nat} (hx : x ≠ 0) (d : Nat) : x <<< d ≠ 0 := by
  rw [Nat.shiftLeft_eq]
  exact Nat.mul_ne_zero hx (Nat.pos_iff_ne_zero.1 (Nat.two_pow_pos d))

theorem log2_shift (x d : Nat) (hx : x ≠ 0) : (x <<< d).log2 = x.log2 + d := by
  induction d with
  | zero => simp
  | succ d ih =>
    rw [Nat.shiftLeft_succ, Nat.log2_two_mul (shift_ne hx _), ih]; omega

theorem cut_none (neg : Bool) (n : Nat) : Toward.even.cut neg n 0 = n := by
  simp [Toward.cut, Nat.mod_one]

theorem cut_whole (neg : Bool) (n c : Nat) (hn : n ≠ 0) : Toward.even.cut neg (n <<< c) c = n := by
  have h : min c ((n <<< c).log2 + 2) = c := by rw [log2_shift _ _ hn]; omega
  have p : 0 < 2 ^ c := Nat.two_pow_pos c
  have hd : n <<< c / 1 <<< c = n := by simp [Nat.shiftLeft_eq, Nat.mul_div_cancel _ p]
  have hm : n <<< c % 1 <<< c = 0 := by simp [Nat.shiftLeft_eq]
  have hg : 1 <<< c ≠ 0 := by simp [Nat.shiftLeft_eq]
  unfold Toward.cut
  simp only [h, hd, hm]
  simp [hg]

/-- What a whole number below 2^17 asks of a format. -/
structure Wide (f : Format) : Prop where
  room : 40 ≤ 2 * f.fractionBits
  low : f.leastPlace ≤ -(f.fractionBits : Int)
  high : (20 - f.fractionBits - f.leastPlace).toNat + 2 ≤ 2 ^ f.exponentBits - 1

theorem wide_single : Wide single := ⟨by decide, by decide, by decide⟩
theorem wide_double : Wide double := ⟨by decide, by decide, by decide⟩

theorem wide (k : FloatKind) : Wide k.format := by cases k; exact wide_single; exact wide_double

theorem nearest_shift {f : Format} (hf : Wide f) (neg : Bool) (x d : Nat) (hx : x ≠ 0) (hL : x.log2 ≤ 20) :
    f.nearest neg (x <<< d) (-(d : Int)) = f.word neg (((x.log2 : Int) - f.fractionBits - f.leastPlace).toNat * f.binade + x <<< (f.fractionBits - x.log2)) := by
  have hs : x <<< d ≠ 0 := shift_ne hx _
  have h0 := hf.room
  have h1 := hf.low
  have h2 := hf.high
  have e1 : max (-(d : Int) + (x <<< d).log2 - f.fractionBits) f.leastPlace = (x.log2 : Int) - f.fractionBits := by
    rw [log2_shift _ _ hx]; omega
  have hk : Toward.even.cut neg ((x <<< d) <<< (-(d : Int) - ((x.log2 : Int) - f.fractionBits)).toNat) (((x.log2 : Int) - f.fractionBits) - -(d : Int)).toNat = x <<< (f.fractionBits - x.log2) := by
    by_cases hd : d ≤ f.fractionBits - x.log2
    · have a1 : (-(d : Int) - ((x.log2 : Int) - f.fractionBits)).toNat = f.fractionBits - x.log2 - d := by omega
      have a2 : (((x.log2 : Int) - f.fractionBits) - -(d : Int)).toNat = 0 := by omega
      rw [a1, a2, cut_none, ← Nat.shiftLeft_add]
      congr 1; omega
    · have a1 : (-(d : Int) - ((x.log2 : Int) - f.fractionBits)).toNat = 0 := by omega
      have a2 : (((x.log2 : Int) - f.fractionBits) - -(d : Int)).toNat = d - (f.fractionBits - x.log2) := by omega
      have a3 : x <<< d = (x <<< (f.fractionBits - x.log2)) <<< (d - (f.fractionBits - x.log2)) := by
        rw [← Nat.shiftLeft_add]; congr 1; omega
      rw [a1, a2, Nat.shiftLeft_zero, a3]
      exact cut_whole neg _ _ (shift_ne hx _)
  have hb : x <<< (f.fractionBits - x.log2) < 2 * f.binade := by
    have l1 : x < 2 ^ (x.log2 + 1) := Nat.lt_log2_self
    have p : 0 < 2 ^ (f.fractionBits - x.log2) := Nat.two_pow_pos _
    rw [Nat.shiftLeft_eq]
    have l2 : x * 2 ^ (f.fractionBits - x.log2) < 2 ^ (x.log2 + 1) * 2 ^ (f.fractionBits - x.log2) := Nat.mul_lt_mul_of_pos_right l1 p
    rw [← Nat.pow_add] at l2
    have l3 : x.log2 + 1 + (f.fractionBits - x.log2) = f.fractionBits + 1 := by omega
    rw [l3, Nat.pow_succ] at l2
    unfold Format.binade; omega
  have hi : ((x.log2 : Int) - f.fractionBits - f.leastPlace).toNat * f.binade + x <<< (f.fractionBits - x.log2) < f.infRung := by
    have m1 : ((x.log2 : Int) - f.fractionBits - f.leastPlace).toNat + 2 ≤ 2 ^ f.exponentBits - 1 := by omega
    have m2 := Nat.mul_le_mul_right f.binade m1
    unfold Format.infRung
    rw [Nat.add_mul] at m2
    omega
  unfold Format.nearest
  rw [if_neg hs]
  simp only [e1, hk]
  congr 1
  exact Nat.min_eq_left (Nat.le_of_lt hi)

theorem read_word {f : Format} (neg : Bool) {r : Nat} (h1 : f.binade ≤ r) (h2 : r < f.infRung) :
    f.read (f.word neg r) = .number neg (f.binade + r % f.binade) (f.leastPlace + (r / f.binade - 1 : Nat)) := by
  have hs := f.infRung_lt
  have hlt : r < f.signWeight := by omega
  have hpos : 0 < f.signWeight := by omega
  have a1 : (f.word neg r / f.signWeight % 2 == 1) = neg := by
    cases neg
    · simp [Format.word, Nat.div_eq_of_lt hlt]
    · simp [Format.word, Nat.add_div_left _ hpos, Nat.div_eq_of_lt hlt]
  have a2 : f.word neg r % f.signWeight = r := by
    cases neg
    · simp [Format.word, Nat.mod_eq_of_lt hlt]
    · simp [Format.word, Nat.mod_eq_of_lt hlt]
  unfold Format.read
  simp only [a1, a2]
  rw [if_neg (by omega), if_pos h2]

theorem read_nearest {f : Format} (hf : Wide f) (neg : Bool) (x : Nat) (hx : x ≠ 0) (hL : x.log2 ≤ 20) :
    f.read (f.nearest neg x 0) = .number neg (x <<< (f.fractionBits - x.log2)) (-((f.fractionBits - x.log2 : Nat) : Int)) := by
  have h := nearest_shift hf neg x 0 hx hL
  simp only [Nat.shiftLeft_zero] at h
  rw [show (-((0 : Nat) : Int)) = 0 from rfl] at h
  rw [h]
  have h0 := hf.room
  have h1 := hf.low
  have h2 := hf.high
  generalize hq : ((x.log2 : Int) - f.fractionBits - f.leastPlace).toNat = q
  have p : 0 < 2 ^ (f.fractionBits - x.log2) := Nat.two_pow_pos _
  have hb1 : f.binade ≤ x <<< (f.fractionBits - x.log2) := by
    have l1 : 2 ^ x.log2 ≤ x := Nat.log2_self_le hx
    have l2 := Nat.mul_le_mul_right (2 ^ (f.fractionBits - x.log2)) l1
    rw [← Nat.pow_add] at l2
    have l3 : x.log2 + (f.fractionBits - x.log2) = f.fractionBits := by omega
    rw [l3] at l2
    rw [Nat.shiftLeft_eq]; exact l2
  have hb2 : x <<< (f.fractionBits - x.log2) < 2 * f.binade := by
    have l1 : x < 2 ^ (x.log2 + 1) := Nat.lt_log2_self
    rw [Nat.shiftLeft_eq]
    have l2 : x * 2 ^ (f.fractionBits - x.log2) < 2 ^ (x.log2 + 1) * 2 ^ (f.fractionBits - x.log2) := Nat.mul_lt_mul_of_pos_right l1 p
    rw [← Nat.pow_add] at l2
    have l3 : x.log2 + 1 + (f.fractionBits - x.log2) = f.fractionBits + 1 := by omega
    rw [l3, Nat.pow_succ] at l2
    unfold Format.binade; omega
  have hbp : 0 < f.binade := Nat.two_pow_pos _
  generalize x <<< (f.fractionBits - x.log2) = y at hb1 hb2 ⊢
  have hi : q * f.binade + y < f.infRung := by
    have m1 : q + 2 ≤ 2 ^ f.exponentBits - 1 := by omega
    have m2 := Nat.mul_le_mul_right f.binade m1
    unfold Format.infRung
    rw [Nat.add_mul] at m2
    omega
  rw [read_word neg (by omega) hi]
  have c1 : (q * f.binade + y) % f.binade = y - f.binade := by
    have : q * f.binade + y = (y - f.binade) + (q + 1) * f.binade := by rw [Nat.add_mul]; omega
    rw [this, Nat.add_mul_mod_self_right, Nat.mod_eq_of_lt (by omega)]
  have c2 : (q * f.binade + y) / f.binade = q + 1 := by
    have : q * f.binade + y = (y - f.binade) + (q + 1) * f.binade := by rw [Nat.add_mul]; omega
    rw [this, Nat.add_mul_div_right _ _ hbp, Nat.div_eq_of_lt (by omega)]; omega
  rw [c1, c2]
  congr 1 <;> omega

/-- The whole numbers that are handled: 20 binary digits. -/
def Small (n : Int) : Prop := n.natAbs < 2 ^ 20

theorem Small.log {n : Int} (h : Small n) : n.natAbs.log2 ≤ 20 := by
  by_cases hz : n.natAbs = 0
  · simp [hz]
  · have := (Nat.log2_lt hz).2 h
    omega

theorem floatOfInt_zero (k : FloatKind) : floatOfInt k 0 = 0 := by cases k <;> rfl

/-- What the float of a whole number stands for. -/
theorem read_whole (k : FloatKind) (n : Int) (h : Small n) : ∃ d : Nat, k.format.read (floatOfInt k n) = .number (n < 0) (n.natAbs <<< d) (-(d : Int)) := by
  by_cases hz : n = 0
  · subst hz
    rw [floatOfInt_zero]
    cases k
    · exact ⟨149, by decide⟩
    · exact ⟨1074, by decide⟩
  · exact ⟨_, read_nearest (wide k) _ _ (by omega) h.log⟩

/-- A whole number, written at any place, is the float of it. -/
theorem write_whole (k : FloatKind) (n : Int) (h : Small n) (d : Nat) : k.format.write (.number (n < 0) (n.natAbs <<< d) (-(d : Int))) = floatOfInt k n := by
  by_cases hz : n = 0
  · subst hz
    rw [floatOfInt_zero]
    simp [Format.write, Format.nearest, Format.word]
  · have hx : n.natAbs ≠ 0 := by omega
    have h2 := nearest_shift (wide k) (n < 0) n.natAbs 0 hx h.log
    have h1 := nearest_shift (wide k) (n < 0) n.natAbs d hx h.log
    exact h1.trans h2.symm

theorem signed_whole (n : Int) (d up : Nat) : signed (n < 0) (n.natAbs <<< d) up = n * 2 ^ (d + up) := by
  unfold signed
  rw [← Nat.shiftLeft_add, Nat.shiftLeft_eq]
  by_cases hn : n < 0
  · simp only [hn, decide_true, if_true]
    have : (n.natAbs : Int) = -n := by omega
    push_cast
    rw [this, Int.neg_mul, Int.neg_neg]
  · simp only [hn, decide_false]
    have : (n.natAbs : Int) = n := by omega
    push_cast
    simp [this]

theorem order_whole (k : FloatKind) (n : Int) (h : Small n) : k.format.order (floatOfInt k n) (floatOfInt k n) = some .eq := by
  obtain ⟨d, hd⟩ := read_whole k n h
  unfold Format.order
  rw [hd]
  simp [Datum.order]

theorem neq_whole (k : FloatKind) (n : Int) (h : Small n) : (k.format.order (floatOfInt k n) (floatOfInt k n) != some .eq) = false := by
  rw [order_whole k n h]; rfl

theorem convert_whole (s k : FloatKind) (n : Int) (h : Small n) : floatToFloatBits s (floatOfInt s n) k = some (floatOfInt k n) := by
  unfold floatToFloatBits
  split
  · rename_i e; subst e; rfl
  · obtain ⟨d, hd⟩ := read_whole s n h
    have hw := write_whole k n h d
    obtain ⟨d', hd'⟩ := read_whole k n h
    unfold FloatKind.decode FloatKind.encode
    rw [hd]
    simp only [hw]
    rw [hd']
    simp [Datum.isInfinity]

theorem pow_sum (a : Int) (d D : Nat) (h : d ≤ D) : a * 2 ^ (d + (D - d)) = a * 2 ^ D := by
  congr 2; omega

theorem sum_whole (s t : Bool) (a b : Int) (x y d1 d2 : Nat) (ha : ∀ u, signed s x u = a * 2 ^ (d1 + u)) (hb : ∀ u, signed t y u = b * 2 ^ (d2 + u)) (hst : a + b = 0 → (s && t) = false) :
    ∃ D : Nat, Datum.sum (.number s x (-(d1 : Int))) (.number t y (-(d2 : Int))) = some (.number (a + b < 0) ((a + b).natAbs <<< D) (-(D : Int))) := by
  refine ⟨max d1 d2, ?_⟩
  have e0 : min (-(d1 : Int)) (-(d2 : Int)) = -((max d1 d2 : Nat) : Int) := by omega
  have e1 : (-(d1 : Int) - -((max d1 d2 : Nat) : Int)).toNat = max d1 d2 - d1 := by omega
  have e2 : (-(d2 : Int) - -((max d1 d2 : Nat) : Int)).toNat = max d1 d2 - d2 := by omega
  unfold Datum.sum
  simp only [e0, e1, e2, ha, hb]
  rw [pow_sum a d1 _ (by omega), pow_sum b d2 _ (by omega), ← Int.add_mul]
  have p : (0 : Int) < 2 ^ max d1 d2 := by exact_mod_cast Nat.two_pow_pos (max d1 d2)
  congr 2
  · by_cases hz : a + b = 0
    · simp [hz, hst hz]
    · have : (a + b) * 2 ^ max d1 d2 ≠ 0 := Int.mul_ne_zero hz (by omega)
      rw [if_neg this]
      by_cases hn : a + b < 0
      · simp [hn, Int.mul_neg_of_neg_of_pos hn p]
      · have : 0 ≤ (a + b) * 2 ^ max d1 d2 := Int.mul_nonneg (by omega) (by omega)
        simp [hn]; omega
  · rw [Int.natAbs_mul, Nat.shiftLeft_eq, Int.natAbs_pow]; rfl

theorem add_whole (k : FloatKind) (a b : Int) (ha : Small a) (hb : Small b) (hc : Small (a + b)) : floatBits .add k (floatOfInt k a) (floatOfInt k b) = some (floatOfInt k (a + b)) := by
  obtain ⟨d1, h1⟩ := read_whole k a ha
  obtain ⟨d2, h2⟩ := read_whole k b hb
  obtain ⟨D, hD⟩ := sum_whole (a < 0) (b < 0) a b (a.natAbs <<< d1) (b.natAbs <<< d2) d1 d2 (fun u => signed_whole a d1 u) (fun u => signed_whole b d2 u) (by
    intro hz
    by_cases hn : a < 0
    · have : ¬ b < 0 := by omega
      simp [this]
    · simp [hn])
  show k.format.add _ _ = _
  unfold Format.add
  rw [h1, h2, hD]
  simp only [Option.map_some, write_whole k _ hc D]

theorem signed_flip (b : Int) (d u : Nat) : signed (!(b < 0 : Bool)) (b.natAbs <<< d) u = -b * 2 ^ (d + u) := by
  have h := signed_whole b d u
  rw [Int.neg_mul, ← h]
  unfold signed
  by_cases hn : b < 0 <;> simp [hn]

theorem sub_whole (k : FloatKind) (a b : Int) (ha : Small a) (hb : Small b) (hc : Small (a - b)) : floatBits .sub k (floatOfInt k a) (floatOfInt k b) = some (floatOfInt k (a - b)) := by
  obtain ⟨d1, h1⟩ := read_whole k a ha
  obtain ⟨d2, h2⟩ := read_whole k b hb
  obtain ⟨D, hD⟩ := sum_whole (a < 0) (!(b < 0 : Bool)) a (-b) (a.natAbs <<< d1) (b.natAbs <<< d2) d1 d2 (fun u => signed_whole a d1 u) (fun u => signed_flip b d2 u) (by
    intro hz
    by_cases hn : a < 0
    · have : b < 0 := by omega
      simp [this]
    · simp [hn])
  show k.format.sub _ _ = _
  unfold Format.sub
  rw [h1, h2]
  simp only [Datum.opposite]
  rw [hD]
  simp only [Option.map_some]
  rw [show a + -b = a - b from rfl, write_whole k _ hc D]

theorem one64 : floatOfInt .f64 1 = 4607182418800017408 := by decide +kernel
theorem one32 : floatOfInt .f32 1 = 1065353216 := by decide +kernel

end Go.Proofs.WholeFloat
