/- Maps keyed by uint64 whose elements are leases: update and look-up; zzs3701amap, pending, slices.Index, slices.Contains, agree. -/
import Derived.Test.YbulkbxpwProg
import Derived.WalkKit
import Derived.MapKept
import Derived.WalkLawsBesides
import Derived.WalkSpells
import Derived.Deep.OwnRows
namespace Go.Proofs.Ybulkbxpw
open Go.RowKit
set_option maxRecDepth 100000
set_option maxHeartbeats 800000
set_option linter.unusedVariables false
set_option linter.unusedSimpArgs false

/-- a lease as a value -/
def lv (p q : Int) : Value := .agg #[.int .u64 p, .int .u64 q, .slice none 0 0]

def putBlock (w : World) (m : Nat) (o : Obj) : World := { w with heap := w.heap.setIfInBounds m o }

/-- block m is a map with the keys K (in some order) whose elements are leases -/
def MapIs (w : World) (m : Nat) (K : List Int) : Prop :=
  ∃ es clock, w.heap[m]? = some (.map es clock) ∧ es.toList.map (·.key) = K.map (Value.int .u64) ∧ ∀ e ∈ es.toList, ∃ p q, e.val = lv p q

theorem findNow_u64 (x : Int) : ∀ (es : List MapEntry) (K : List Int) (i : Nat), es.map (·.key) = K.map (Value.int .u64) →
    (x ∉ K ∧ Instr.findNow (.int .u64) (.int .u64 x) es i = some none) ∨ (x ∈ K ∧ ∃ j e, es[j]? = some e ∧ e.key = .int .u64 x ∧ Instr.findNow (.int .u64) (.int .u64 x) es i = some (some (i + j, e.val)))
  | [], K, i, h => by
    have : K = [] := by simpa using h.symm
    subst this
    exact .inl ⟨by simp, rfl⟩
  | e :: es, K, i, h => by
    cases K with
    | nil => simp at h
    | cons k K =>
      simp only [List.map_cons, List.cons.injEq] at h
      obtain ⟨h1, h2⟩ := h
      by_cases hx : x = k
      · subst hx
        exact .inr ⟨by simp, 0, e, rfl, h1, by simp [Instr.findNow, h1, Instr.sameNow]⟩
      · have hne : (x == k) = false := by simpa using hx
        rcases findNow_u64 x es K (i + 1) h2 with ⟨g1, g2⟩ | ⟨g1, j, e', g2, g3, g4⟩
        · exact .inl ⟨by simp [hx, g1], by simp [Instr.findNow, h1, Instr.sameNow, hne, g2]⟩
        · exact .inr ⟨by simp [g1], j + 1, e', by simpa using g2, g3, by simp [Instr.findNow, h1, Instr.sameNow, hne, g4]; omega⟩

theorem chk (x : Int) (b : Bool) (w : World) : (Instr.checkKey b 10000 23 (.int .u64 x)).run Yba.prog w = .ok () w := MapKept.run_checkKey Yba.underlying23 (by constructor) b 9999

theorem run_upd {w : World} {m : Nat} {K : List Int} (h : MapIs w m K) (x p q : Int) :
    ∃ o, (Instr.mapUpdate 24 (.map (some m)) (.int .u64 x) (lv p q)).run Yba.prog w = .ok () (putBlock w m o) ∧ MapIs (putBlock w m o) m (if x ∈ K then K else K ++ [x]) := by
  obtain ⟨es, clock, hb, hk, hv⟩ := h
  have hlt : m < w.heap.size := (Array.getElem?_eq_some_iff.1 hb).1
  have hck : (Instr.checkKey false 10000 23 (.int .u64 x)).run Yba.prog w = .ok () w := chk x false w
  rcases findNow_u64 x es.toList K 0 hk with ⟨g1, g2⟩ | ⟨g1, j, e, g2, g3, g4⟩
  · refine ⟨.map (es.push { key := .int .u64 x, val := lv p q, born := clock }) (clock + 1), ?_, ?_⟩
    · simp [Instr.mapUpdate, Instr.findKey, run_underlying Yba.underlying24, run_underlying Yba.underlying23, MapKept.run_getObj_map hb, hck, g2, MapKept.run_setObj_map _ hb, Result.andThen, putBlock]
    · rw [if_neg g1]
      refine ⟨_, _, by simp [putBlock, hlt]; exact ⟨rfl, rfl⟩, by simp [hk], ?_⟩
      intro e he
      simp only [Array.toList_push, List.mem_append, List.mem_singleton] at he
      rcases he with he | rfl
      · exact hv e he
      · exact ⟨p, q, rfl⟩
  · have hj : es[j]? = some e := by simpa using g2
    refine ⟨.map (es.modify j fun e => { e with key := .int .u64 x, val := lv p q }) clock, ?_, ?_⟩
    · simp [Instr.mapUpdate, Instr.findKey, Instr.keyThatStays, Instr.sameBits, run_underlying Yba.underlying24, run_underlying Yba.underlying23, MapKept.run_getObj_map hb, hck, g4, hj, g3, MapKept.run_setObj_map _ hb, Result.andThen, putBlock]
    · rw [if_pos g1]
      refine ⟨_, _, by simp [putBlock, hlt]; exact ⟨rfl, rfl⟩, ?_, ?_⟩
      · rw [← hk]
        apply List.ext_getElem?
        intro i
        simp only [List.getElem?_map, Array.getElem?_toList, Array.getElem?_modify]
        by_cases e : j = i
        · subst e; simp [hj, g3]
        · simp [e]
      · intro e' he'
        obtain ⟨i, hi⟩ := List.mem_iff_getElem?.1 he'
        rw [Array.getElem?_toList, Array.getElem?_modify] at hi
        by_cases ej : j = i
        · subst ej
          rw [if_pos rfl, hj] at hi
          simp at hi
          exact ⟨p, q, by rw [← hi]⟩
        · rw [if_neg ej] at hi
          exact hv e' (List.mem_iff_getElem?.2 ⟨i, by simpa using hi⟩)

theorem zero57 : (Yba.prog.info? 57).map (fun i => i.zero) = some (some (lv 0 0)) := by kernel_rfl

theorem run_look {w : World} {m : Nat} {K : List Int} (h : MapIs w m K) (x : Int) :
    ∃ p q, (Instr.lookup 24 (.map (some m)) (.int .u64 x) true).run Yba.prog w = .ok (.tuple #[lv p q, .bool (decide (x ∈ K))]) w := by
  obtain ⟨es, clock, hb, hk, hv⟩ := h
  have hck : ∀ b, (Instr.checkKey b 10000 23 (.int .u64 x)).run Yba.prog w = .ok () w := fun b => chk x b w
  obtain ⟨i, hi, hz⟩ := Option.map_eq_some_iff.1 zero57
  rcases findNow_u64 x es.toList K 0 hk with ⟨g1, g2⟩ | ⟨g1, j, e, g2, g3, g4⟩
  · refine ⟨0, 0, ?_⟩
    simp [Instr.lookup, Instr.findKey, run_underlying Yba.underlying24, run_underlying Yba.underlying23, MapKept.run_getObj_map hb, hck, g2, g1, zeroValue, typeInfo, hi, hz, Result.andThen]
  · obtain ⟨p, q, e2⟩ := hv e (List.mem_iff_getElem?.2 ⟨j, g2⟩)
    refine ⟨p, q, ?_⟩
    simp [Instr.lookup, Instr.findKey, run_underlying Yba.underlying24, run_underlying Yba.underlying23, MapKept.run_getObj_map hb, hck, g4, g1, e2, Result.andThen]

theorem run_look_nil (w : World) (x : Int) : (Instr.lookup 24 (.map none) (.int .u64 x) true).run Yba.prog w = .ok (.tuple #[lv 0 0, .bool false]) w := by
  have hck : ∀ b, (Instr.checkKey b 10000 23 (.int .u64 x)).run Yba.prog w = .ok () w := fun b => chk x b w
  obtain ⟨i, hi, hz⟩ := Option.map_eq_some_iff.1 zero57
  simp [Instr.lookup, Instr.findKey, Instr.findNow, run_underlying Yba.underlying24, run_underlying Yba.underlying23, hck, zeroValue, typeInfo, hi, hz, Result.andThen]

theorem run_mkmap (n : Nat) (w : World) : (Instr.makeMap 24 (some (.int .i64 (n : Int)))).run Yba.prog w = .ok (.map (some w.heap.size)) (w.alloc (.map #[] 0)) := by
  simp [Instr.makeMap, run_underlying Yba.underlying24, asInt, asIntOf]

end Go.Proofs.Ybulkbxpw
