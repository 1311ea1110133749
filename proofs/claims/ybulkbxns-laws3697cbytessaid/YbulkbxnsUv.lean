/- zzs3697cuv and encoding/binary.AppendUvarint: what they append. -/
import Derived.Test.YbulkbxnsProg
import Derived.Test.YbulkbxnsOwn
import Derived.WalkLawsBesides
import Derived.WalkSpells
import Derived.Deep.DeepMust
namespace Go.Proofs.Ybulkbxns
open Go.RowKit Go.Proofs.Own
set_option maxRecDepth 100000
set_option maxHeartbeats 800000
set_option linter.unusedVariables false
set_option linter.unusedSimpArgs false

theorem info5 : (Yba.prog.info? 5).map (fun i => (i.zero, i.size, i.bytes)) = some (some (.int .u8 0), 1, 1) := by kernel_rfl

/-- a byte as a cell -/
def bv (n : Int) : Value := .int .u8 n

/-- the bytes of a varint -/
def uvI : Nat → Int → List Int
  | 0, x => [x]
  | f + 1, x => if x < 128 then [x] else (x % 128 + 128) :: uvI f (x / 128)

theorem or128_fin : ∀ t : Fin 256, bits BinOp.or IntKind.u8 (t.val : Int) 128 = (t.val : Int) % 128 + 128 := by decide +kernel
theorem or128 (y : Int) : bits BinOp.or IntKind.u8 (y % 256) 128 = y % 128 + 128 := by
  have h0 : 0 ≤ y % 256 := by omega
  have h1 : y % 256 < 256 := by omega
  have := or128_fin ⟨(y % 256).toNat, by omega⟩
  simp only [Int.toNat_of_nonneg h0] at this
  rw [this]
  omega

theorem uvI_len (f : Nat) : ∀ y, (uvI f y).length ≤ f + 1 := by
  induction f with
  | zero => intro y; simp [uvI]
  | succ f ih => intro y; simp only [uvI]; split <;> simp; exact Nat.le_trans (ih _) (by omega)

theorem uvI_small (f : Nat) (y : Int) (h : y < 128) : uvI f y = [y] := by
  cases f with
  | zero => rfl
  | succ f => simp [uvI, h]

theorem uvI_big (f : Nat) (y : Int) (h : ¬ y < 128) : uvI (f + 1) y = (y % 128 + 128) :: uvI f (y / 128) := by simp [uvI, h]

/-- one cell just laid, as the source of an append -/
theorem src_one (w : World) (x : Value) (h : x.oneCell' = true) : Src Yba.prog 1 32 (.slice (some ⟨w.heap.size, 0, none⟩) 1 1) 1 [x] (w.alloc (.cells #[x] 5)) :=
  Src.ofSlice _ Yba.underlying32 _ _ _ _ rfl (fun j u hj => by
    match j, hj with
    | 0, hj => simp at hj; subst hj; simp [Addr.add]) (fun u hu => by simp at hu; subst hu; exact h)

theorem uv25 (x : Int) (hx : 0 ≤ x) (hx2 : x < 1180591620717411303424) (v : Value) (bs : List Int) (w : World) (h : RowAt w 5 v (bs.map bv)) (hl : bs.length ≤ 1099511627776) :
    Calls Yba.prog 25 #[v, .int .u64 x] w fun e w' => ∃ v', e = .returned v' ∧ RowAt w' 5 v' ((bs ++ uvI 10 x).map bv) ∧ Grow w w' v v' := by
  go_enter Yba.func25, Yba.ntmps25
  go_wp2
  go_loopw [0, 1] (fun b t wr => ∃ (f : Nat) (pre : List Int) (y : Int), t = .int .u64 y ∧ 0 ≤ y ∧ y < 128 ^ f ∧ pre.length + f = 10 ∧ Hid (pre ++ uvI f y = uvI 10 x) ∧ RowAt wr 5 b ((bs ++ pre).map bv) ∧ Grow w wr v b) (fun _ t _ => (intOf t).toNat)
  case atStart => exact ⟨10, [], x, rfl, hx, hx2, rfl, rfl, by simpa using h, Grow.refl _ _⟩
  case round =>
    obtain ⟨f, pre, y, rfl, hy0, hy, hpf, hu, hrow, hg⟩ := hrel
    by_cases hlt : y < 128
    · go_wp2_with (at_builtin; go_must (refine wpList_append_row _ rfl _ _ 32 32 rfl 5 (.int .u8 0) 1 Yba.underlying32 info5 rfl _ _ rfl (hrow.alloc _) _ rfl 1 [bv y] ?hs ?h1 ?h2 ?_))
      case hs => exact src_one wr _ rfl
      case h1 => first | omega | (simp; omega)
      case h2 => first | omega | (simp; omega)
      intro v' w1 hrow1 hg1
      have hgg : Grow w w1 v v' := hg.trans (hg1.of_alloc hrow.lt)
      have hrr : RowAt w1 5 v' ((bs ++ uvI 10 x).map bv) := by
        rw [← hu.out, uvI_small f y (by omega)]
        simpa using hrow1
      clear hrow1 hg1 hrow hg
      go_wp2
      go_ret
      exact ⟨_, rfl, hrr, hgg⟩
    · go_wp2_with (at_builtin; go_must (refine wpList_append_row _ rfl _ _ 32 32 rfl 5 (.int .u8 0) 1 Yba.underlying32 info5 rfl _ _ rfl (hrow.alloc _) _ rfl 1 [bv (y % 128 + 128)] ?hs ?h1 ?h2 ?_))
      case hs => rw [or128]; exact src_one wr _ rfl
      case h1 => first | omega | (simp; omega)
      case h2 => first | omega | (simp; omega)
      intro v' w1 hrow1 hg1
      have hgg : Grow w w1 v v' := hg.trans (hg1.of_alloc hrow.lt)
      obtain ⟨f', rfl⟩ : ∃ f', f = f' + 1 := by
        cases f with
        | zero => simp at hy; omega
        | succ f => exact ⟨f, rfl⟩
      have hrr : RowAt w1 5 v' ((bs ++ (pre ++ [y % 128 + 128])).map bv) := by simpa using hrow1
      have hu' : Hid ((pre ++ [y % 128 + 128]) ++ uvI f' (y / 128) = uvI 10 x) := by
        have := hu.out
        rw [uvI_big f' y (by omega)] at this
        show _ = _
        rw [← this]; simp
      have hyy : y / 128 < 128 ^ f' := by
        have : (128 : Int) ^ (f' + 1) = 128 ^ f' * 128 := by rw [Int.pow_succ]
        omega
      clear hrow1 hg1 hrow hg hu
      go_wp2
      go_roundw
      case rel => exact ⟨f', _, y / 128, by go_num, by omega, hyy, by simp; omega, hu', hrr, hgg⟩
      case measure => simp [intOf]; omega
theorem uv26 (x : Int) (hx : 0 ≤ x) (hx2 : x < 1180591620717411303424) (v : Value) (bs : List Int) (w : World) (h : RowAt w 5 v (bs.map bv)) (hl : bs.length ≤ 1099511627776) :
    Calls Yba.prog 26 #[v, .int .u64 x] w fun e w' => ∃ v', e = .returned v' ∧ RowAt w' 5 v' ((bs ++ uvI 10 x).map bv) ∧ Grow w w' v v' := by
  go_enter Yba.func26, Yba.ntmps26
  go_wp2
  go_loopw [0, 1] (fun b t wr => ∃ (f : Nat) (pre : List Int) (y : Int), t = .int .u64 y ∧ 0 ≤ y ∧ y < 128 ^ f ∧ pre.length + f = 10 ∧ Hid (pre ++ uvI f y = uvI 10 x) ∧ RowAt wr 5 b ((bs ++ pre).map bv) ∧ Grow w wr v b) (fun _ t _ => (intOf t).toNat)
  case atStart => exact ⟨10, [], x, rfl, hx, hx2, rfl, rfl, by simpa using h, Grow.refl _ _⟩
  case round =>
    obtain ⟨f, pre, y, rfl, hy0, hy, hpf, hu, hrow, hg⟩ := hrel
    by_cases hlt : y < 128
    · go_wp2_with (at_builtin; go_must (refine wpList_append_row _ rfl _ _ 32 32 rfl 5 (.int .u8 0) 1 Yba.underlying32 info5 rfl _ _ rfl (hrow.alloc _) _ rfl 1 [bv y] ?hs ?h1 ?h2 ?_))
      case hs => exact src_one wr _ rfl
      case h1 => first | omega | (simp; omega)
      case h2 => first | omega | (simp; omega)
      intro v' w1 hrow1 hg1
      have hgg : Grow w w1 v v' := hg.trans (hg1.of_alloc hrow.lt)
      have hrr : RowAt w1 5 v' ((bs ++ uvI 10 x).map bv) := by
        rw [← hu.out, uvI_small f y (by omega)]
        simpa using hrow1
      clear hrow1 hg1 hrow hg
      go_wp2
      go_ret
      exact ⟨_, rfl, hrr, hgg⟩
    · go_wp2_with (at_builtin; go_must (refine wpList_append_row _ rfl _ _ 32 32 rfl 5 (.int .u8 0) 1 Yba.underlying32 info5 rfl _ _ rfl (hrow.alloc _) _ rfl 1 [bv (y % 128 + 128)] ?hs ?h1 ?h2 ?_))
      case hs => rw [or128]; exact src_one wr _ rfl
      case h1 => first | omega | (simp; omega)
      case h2 => first | omega | (simp; omega)
      intro v' w1 hrow1 hg1
      have hgg : Grow w w1 v v' := hg.trans (hg1.of_alloc hrow.lt)
      obtain ⟨f', rfl⟩ : ∃ f', f = f' + 1 := by
        cases f with
        | zero => simp at hy; omega
        | succ f => exact ⟨f, rfl⟩
      have hrr : RowAt w1 5 v' ((bs ++ (pre ++ [y % 128 + 128])).map bv) := by simpa using hrow1
      have hu' : Hid ((pre ++ [y % 128 + 128]) ++ uvI f' (y / 128) = uvI 10 x) := by
        have := hu.out
        rw [uvI_big f' y (by omega)] at this
        show _ = _
        rw [← this]; simp
      have hyy : y / 128 < 128 ^ f' := by
        have : (128 : Int) ^ (f' + 1) = 128 ^ f' * 128 := by rw [Int.pow_succ]
        omega
      clear hrow1 hg1 hrow hg hu
      go_wp2
      go_roundw
      case rel => exact ⟨f', _, y / 128, by go_num, by omega, hyy, by simp; omega, hu', hrr, hgg⟩
      case measure => simp [intOf]; omega
end Go.Proofs.Ybulkbxns
