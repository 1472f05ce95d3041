/- The trees of 'indexset.go' as data, how they lie in a world, and the laws on the memo map (key: two pointers). -/
import Derived.Test.YbulkakkoRows
import Derived.WalkKit
import Derived.LaidEqlPtr
import Derived.Below
import Derived.Laws.AppendOwn
import Derived.MapKept
namespace Go.Proofs.Ybulkakko
open Go.RowKit

set_option linter.unusedVariables false
set_option linter.unusedSimpArgs false

inductive T where
  | nil
  | node (b : Nat) (bits : Int) (l r : T) (size : Int)
  deriving DecidableEq

namespace T
def addr : T → Option Addr
  | nil => none
  | node b _ _ _ _ => some ⟨b, 0, none⟩
@[go_sem] def ptr (t : T) : Value := .pointer t.addr
def left : T → T
  | nil => nil
  | node _ _ l _ _ => l
def right : T → T
  | nil => nil
  | node _ _ _ r _ => r
def word : T → Int
  | nil => 0
  | node _ x _ _ _ => x
def len : T → Int
  | nil => 0
  | node _ _ _ _ n => n
end T

/-- The tree lies in the world: each node a whole block. -/
def In (w : World) : T → Prop
  | .nil => True
  | .node b x l r n => w.heap[b]? = some (.cells #[.int .u64 x, l.ptr, r.ptr, .int .i64 n] 133 (0, 0)) ∧ In w l ∧ In w r

theorem In.left {w : World} {t : T} (h : In w t) : In w t.left := by
  cases t with
  | nil => trivial
  | node b x l r n => exact h.2.1
theorem In.right {w : World} {t : T} (h : In w t) : In w t.right := by
  cases t with
  | nil => trivial
  | node b x l r n => exact h.2.2

theorem lt_of_block {w : World} {b : Nat} {o : Obj} (h : w.heap[b]? = some o) : b < w.heap.size := by
  rcases Nat.lt_or_ge b w.heap.size with h' | h'
  · exact h'
  · rw [Array.getElem?_eq_none h'] at h; cases h

/-- Kept where every block but the map's is kept. -/
theorem In.grown {w w' : World} {m : Nat} {es : Array MapEntry} {c : Nat} (hm : w.heap[m]? = some (.map es c)) (hg : w.grownBy w' (some m)) : ∀ {t : T}, In w t → In w' t
  | .nil, _ => trivial
  | .node b x l r n, h => by
    refine ⟨?_, In.grown hm hg h.2.1, In.grown hm hg h.2.2⟩
    have hb := h.1
    rw [hg.block b (lt_of_block hb) ?_]
    · exact hb
    · intro e
      cases e
      rw [hm] at hb
      cases hb

theorem In.below {w w' : World} (hg : Below w.heap.size w w') : ∀ {t : T}, In w t → In w' t
  | .nil, _ => trivial
  | .node b x l r n, h => ⟨by rw [hg.block b (lt_of_block h.1)]; exact h.1, In.below hg h.2.1, In.below hg h.2.2⟩

theorem In.inj {w : World} : ∀ {s t : T}, In w s → In w t → s.addr = t.addr → s = t
  | .nil, .nil, _, _, _ => rfl
  | .nil, .node .., _, _, h => by cases h
  | .node .., .nil, _, _, h => by cases h
  | .node b x l r n, .node b' x' l' r' n', hs, ht, h => by
    simp only [T.addr, Option.some.injEq, Addr.mk.injEq, and_true] at h
    subst h
    have h1 := hs.1
    rw [ht.1] at h1
    simp only [Option.some.injEq, Obj.cells.injEq, Array.mk.injEq, List.cons.injEq, Value.int.injEq, true_and, and_true, T.ptr, Value.pointer.injEq] at h1
    obtain ⟨rfl, hl, hr, rfl⟩ := h1
    rw [In.inj hs.2.1 ht.2.1 hl.symm, In.inj hs.2.2 ht.2.2 hr.symm]

theorem info133 : ∃ j, Yba.prog.info? 133 = some j ∧ j.size ≠ 0 := by
  have h : (Yba.prog.info? 133).map (·.size) = some 4 := by kernel_rfl
  cases hj : Yba.prog.info? 133 with
  | none => rw [hj] at h; cases h
  | some j => rw [hj] at h; exact ⟨j, rfl, by simp only [Option.map_some, Option.some.injEq] at h; omega⟩

theorem run_equalIn_tree {w : World} {s t : T} (hs : In w s) (ht : In w t) (d : Nat) : (Op.equalIn (d + 1) 31 s.ptr t.ptr).run Yba.prog w = .ok (decide (s = t)) w := by
  obtain ⟨j, hj, hz⟩ := info133
  have hu : Yba.prog.underlying 31 = some (.pointer 133) := Yba.underlying31
  cases s with
  | nil =>
    cases t with
    | nil => simp [Op.equalIn, run_underlying hu, T.ptr, T.addr]
    | node => simp [Op.equalIn, run_underlying hu, T.ptr, T.addr]
  | node b x l r n =>
    cases t with
    | nil => simp [Op.equalIn, run_underlying hu, T.ptr, T.addr]
    | node b' x' l' r' n' =>
      by_cases e : T.node b x l r n = T.node b' x' l' r' n'
      · rw [← e, decide_eq_true rfl]
        simp [Op.equalIn, run_underlying hu, T.ptr, T.addr, sizeOf, typeInfo, hj, run_sameAddr_same]
      · rw [decide_eq_false e]
        have hne : (⟨b, 0, none⟩ : Addr) ≠ ⟨b', 0, none⟩ := fun h => e (In.inj hs ht (by simp only [T.addr, h]))
        simp [Op.equalIn, run_underlying hu, T.ptr, T.addr, sizeOf, typeInfo, hj, hz, run_sameAddr_other w hne hs.1 ht.1]

theorem run_eql_tree {w : World} {s t : T} (hs : In w s) (ht : In w t) : (binOp .eql 31 s.ptr t.ptr).run Yba.prog w = .ok (.bool (decide (s = t))) w := by
  have h := run_equalIn_tree hs ht 9999
  unfold T.ptr at *
  generalize s.addr = x at *
  generalize t.addr = y at *
  simp only [binOp]
  simp [Op.equal, Op.maxDepth, h]

/-! ### The map -/
def key (s t : T) : Value := .agg #[s.ptr, t.ptr]

theorem cells31 : Yba.prog.cellsOf 31 = 1 := by kernel_rfl

theorem run_sizeOf31 (w : World) : (sizeOf 31).run Yba.prog w = .ok 1 w := by
  have h : (Yba.prog.info? 31).map (·.size) = some 1 := by kernel_rfl
  cases hj : Yba.prog.info? 31 with
  | none => rw [hj] at h; cases h
  | some j => rw [hj] at h; simp only [Option.map_some, Option.some.injEq] at h; simp [sizeOf, typeInfo, hj, h]

theorem run_part31 (w : World) (xs : Array Value) (off : Nat) (v : Value) (h : xs[off]? = some v) : (part 31 xs off).run Yba.prog w = .ok v w := by
  have hu : Yba.prog.underlying 31 = some (.pointer 133) := Yba.underlying31
  simp [part, isAgg, run_underlying hu, h]

theorem run_equal_key {w : World} {s t s' t' : T} (hs : In w s) (ht : In w t) (hs' : In w s') (ht' : In w t') :
    (Op.equal 167 (key s t) (key s' t')).run Yba.prog w = .ok (decide (s = s' ∧ t = t')) w := by
  have hu : Yba.prog.underlying 167 = some (.array 2 31) := Yba.underlying167
  have hz := run_sizeOf31 w
  have key : ∀ d, (Op.equalIn (d + 2) 167 (key s t) (key s' t')).run Yba.prog w = .ok (decide (s = s' ∧ t = t')) w := by
    intro d
    have h1 := run_equalIn_tree hs hs' d
    have h2 := run_equalIn_tree ht ht' d
    have p1 := run_part31 w #[s.ptr, t.ptr] 0 _ rfl
    have p2 := run_part31 w #[s.ptr, t.ptr] 1 _ rfl
    have p3 := run_part31 w #[s'.ptr, t'.ptr] 0 _ rfl
    have p4 := run_part31 w #[s'.ptr, t'.ptr] 1 _ rfl
    rw [show d + 2 = (d + 1) + 1 from rfl, Op.equalIn]
    generalize Op.equalIn (d + 1) = F at *
    generalize hx1 : s.ptr = x1 at *
    generalize hx2 : s'.ptr = x2 at *
    generalize hy1 : t.ptr = y1 at *
    generalize hy2 : t'.ptr = y2 at *
    simp only [Sem.run_bind, run_underlying hu, Result.andThen_ok, Ybulkakko.key, hx1, hx2, hy1, hy2]
    by_cases e1 : s = s' <;> by_cases e2 : t = t' <;>
      simp [hz, Std.Legacy.Range.forIn_eq_forIn_range', Std.Legacy.Range.size, List.range', p1, p2, p3, p4, h1, h2, e1, e2]
  exact key 9998

theorem run_checkKey (w : World) (em : Bool) (s t : T) : (Instr.checkKey em 10000 167 (key s t)).run Yba.prog w = .ok () w := by
  have hu : Yba.prog.underlying 167 = some (.array 2 31) := Yba.underlying167
  have hu' : Yba.prog.underlying 31 = some (.pointer 133) := Yba.underlying31
  have hz := run_sizeOf31 w
  have key : ∀ d, (Instr.checkKey em (d + 2) 167 (key s t)).run Yba.prog w = .ok () w := by
    intro d
    have p1 := run_part31 w #[s.ptr, t.ptr] 0 _ rfl
    have p2 := run_part31 w #[s.ptr, t.ptr] 1 _ rfl
    have c : ∀ x : T, (Instr.checkKey em (d + 1) 31 x.ptr).run Yba.prog w = .ok () w := fun x => by
      simp [Instr.checkKey, run_underlying hu', T.ptr]
    rw [show d + 2 = (d + 1) + 1 from rfl]
    rw [Instr.checkKey]
    simp only [Sem.run_bind, run_underlying hu, Result.andThen_ok, Ybulkakko.key]
    simp [hz, Std.Legacy.Range.forIn_eq_forIn_range', Std.Legacy.Range.size, List.range', List.forIn_cons, p1, p2, c]
  exact key 9998

/-- What the memo map holds: every entry's key is two trees, its value a tree. -/
def Entries (w : World) (R : T → T → T → Prop) (es : Array MapEntry) : Prop :=
  ∀ e ∈ es.toList, ∃ s t v, e.key = key s t ∧ e.val = v.ptr ∧ In w s ∧ In w t ∧ In w v ∧ R s t v

theorem run_findAsking {w : World} {R : T → T → T → Prop} {s t : T} (hs : In w s) (ht : In w t) : ∀ (es : List MapEntry) (i : Nat), (∀ e ∈ es, ∃ s t v, e.key = key s t ∧ e.val = v.ptr ∧ In w s ∧ In w t ∧ In w v ∧ R s t v) →
    (Instr.findAsking 167 (key s t) es i).run Yba.prog w = .ok none w ∨ ∃ j e v, (Instr.findAsking 167 (key s t) es i).run Yba.prog w = .ok (some (i + j, v.ptr)) w ∧ es[j]? = some e ∧ e.key = key s t ∧ In w v ∧ R s t v
  | [], i, _ => .inl (by simp [Instr.findAsking])
  | e :: es, i, h => by
    obtain ⟨s', t', v, hk, hv, i1, i2, i3, hR⟩ := h e (by simp)
    have hq := run_equal_key hs ht i1 i2
    by_cases c : s = s' ∧ t = t'
    · obtain ⟨rfl, rfl⟩ := c
      refine .inr ⟨0, e, v, ?_, rfl, hk, i3, hR⟩
      simp [Instr.findAsking, hk, hq, hv]
    · have := run_findAsking hs ht es (i + 1) (fun e he => h e (by simp [he]))
      have hstep : (Instr.findAsking 167 (key s t) (e :: es) i).run Yba.prog w = (Instr.findAsking 167 (key s t) es (i + 1)).run Yba.prog w := by
        simp [Instr.findAsking, hk, hq, c]
      rw [hstep]
      rcases this with h1 | ⟨j, e', v', h1, h2, h3⟩
      · exact .inl h1
      · exact .inr ⟨j + 1, e', v', by rw [h1, show i + 1 + j = i + (j + 1) by omega], by simpa using h2, h3⟩

theorem run_findKey {w : World} {R : T → T → T → Prop} {s t : T} (hs : In w s) (ht : In w t) {es : Array MapEntry} (h : Entries w R es) :
    (Instr.findKey 167 (key s t) es.toList).run Yba.prog w = .ok none w ∨ ∃ j e v, (Instr.findKey 167 (key s t) es.toList).run Yba.prog w = .ok (some (j, v.ptr)) w ∧ es[j]? = some e ∧ e.key = key s t ∧ In w v ∧ R s t v := by
  have hu : Yba.prog.underlying 167 = some (.array 2 31) := Yba.underlying167
  cases hes : es.toList with
  | nil => left; simp [Instr.findKey, run_underlying hu, Instr.findNow]
  | cons e l =>
    have hrw : (Instr.findKey 167 (key s t) (e :: l)).run Yba.prog w = (Instr.findAsking 167 (key s t) (e :: l) 0).run Yba.prog w := by
      simp only [Instr.findKey, Sem.run_bind, run_underlying hu, Result.andThen_ok]
      simp [Instr.findNow, Instr.sameNow]
    rw [hrw]
    rcases run_findAsking hs ht (e :: l) 0 (by rw [← hes]; exact h) with h1 | ⟨j, e', v, h1, h2, h3⟩
    · exact .inl h1
    · exact .inr ⟨j, e', v, by simpa using h1, by rw [← hes] at h2; simpa using h2, h3⟩

/-- 'v, ok := memo[key]'. -/
theorem run_lookup {w : World} {R : T → T → T → Prop} {s t : T} (hs : In w s) (ht : In w t) {m c : Nat} {es : Array MapEntry} (hm : w.heap[m]? = some (.map es c)) (h : Entries w R es) :
    (Instr.lookup 28 (.map (some m)) (key s t) true).run Yba.prog w = .ok (.tuple #[.pointer none, .bool false]) w ∨
    ∃ v, (Instr.lookup 28 (.map (some m)) (key s t) true).run Yba.prog w = .ok (.tuple #[v.ptr, .bool true]) w ∧ In w v ∧ R s t v := by
  have hu : Yba.prog.underlying 28 = some (.map 167 31) := Yba.underlying28
  have hc := run_checkKey w es.isEmpty s t
  have hz : (zeroValue 31).run Yba.prog w = .ok (.pointer none) w := by
    have h : (Yba.prog.info? 31).map (·.zero) = some (some (.pointer none)) := by kernel_rfl
    cases hj : Yba.prog.info? 31 with
    | none => rw [hj] at h; cases h
    | some j => rw [hj] at h; simp only [Option.map_some, Option.some.injEq] at h; simp [zeroValue, typeInfo, hj, h]
  rcases run_findKey hs ht h with h1 | ⟨j, e, v, h1, h2, h3, h4, h5⟩
  · left
    simp [Instr.lookup, run_underlying hu, MapKept.run_getObj_map hm, hc, h1, hz]
  · right
    exact ⟨v, by simp [Instr.lookup, run_underlying hu, MapKept.run_getObj_map hm, hc, h1], h4, h5⟩

/-- 'memo[key] = v'. -/
theorem run_mapUpdate {w : World} {R : T → T → T → Prop} {s t v : T} (hs : In w s) (ht : In w t) (hv : In w v) (hR : R s t v) {m c : Nat} {es : Array MapEntry} (hm : w.heap[m]? = some (.map es c)) (h : Entries w R es) :
    ∃ (es' : Array MapEntry) (c' : Nat), (Instr.mapUpdate 28 (.map (some m)) (key s t) v.ptr).run Yba.prog w = .ok () { w with heap := w.heap.setIfInBounds m (.map es' c') } ∧ Entries w R es' ∧ es'.size ≤ es.size + 1 := by
  have hu : Yba.prog.underlying 28 = some (.map 167 31) := Yba.underlying28
  have hc := run_checkKey w false s t
  rcases run_findKey hs ht h with h1 | ⟨j, e, v0, h1, h2, h3, h4, h5⟩
  · refine ⟨es.push { key := key s t, val := v.ptr, born := c }, c + 1, ?_, ?_, by simp⟩
    · simp [Instr.mapUpdate, run_underlying hu, MapKept.run_getObj_map hm, hc, h1, MapKept.run_setObj_map _ hm]
    · intro e he
      simp only [Array.toList_push, List.mem_append, List.mem_singleton] at he
      rcases he with he | rfl
      · exact h e he
      · exact ⟨s, t, v, rfl, rfl, hs, ht, hv, hR⟩
  · refine ⟨es.modify j fun e => { e with key := key s t, val := v.ptr }, c, ?_, ?_, by simp⟩
    · have hsame : Instr.sameBits 10000 (key s t) (key s t) = true := by
        show Instr.sameBits (9999 + 1) (key s t) (key s t) = true
        simp [key, Instr.sameBits, T.ptr]
      simp [Instr.mapUpdate, run_underlying hu, MapKept.run_getObj_map hm, hc, h1, h2, h3, Instr.keyThatStays, hsame, MapKept.run_setObj_map _ hm]
    · intro e' he
      obtain ⟨i, hi, rfl⟩ := List.mem_iff_getElem.1 he
      simp only [Array.getElem_toList, Array.getElem_modify]
      split
      · exact ⟨s, t, v, rfl, rfl, hs, ht, hv, hR⟩
      · exact h _ (by simp)
end Go.Proofs.Ybulkakko
