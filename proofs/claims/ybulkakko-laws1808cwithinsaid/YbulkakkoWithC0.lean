/-
  LawS1808CWithin: its rows in memory.
-/
import Derived.Test.YbulkakkoWithB
import Derived.Deep.RegionHeld3
import Derived.Deep.RegionLaw
import Derived.Deep.AppendLies
import Derived.Deep.DrawnRows
namespace Go.Proofs.Ybulkakko
open Go.RowKit
set_option linter.unusedVariables false

theorem Yba.info53 : (Yba.prog.info? 53).map (fun i => (i.zero, i.size, i.bytes)) = some (some (.pointer none), 1, 8) := by kernel_rfl
theorem Yba.info54 : (Yba.prog.info? 54).map (fun i => (i.zero, i.size, i.bytes)) = some (some (.pointer none), 1, 8) := by kernel_rfl
theorem Yba.info4 : (Yba.prog.info? 4).map (fun i => (i.zero, i.size, i.bytes)) = some (some (.bool false), 1, 1) := by kernel_rfl
theorem Yba.info74 : (Yba.prog.info? 74).map (fun i => (i.zero, i.size, i.bytes)) = some (some (.int .i8 0), 1, 1) := by kernel_rfl
theorem Yba.info82 : (Yba.prog.info? 82).map (fun i => (i.zero, i.size, i.bytes)) = some (some (.slice none 0 0), 1, 24) := by kernel_rfl
theorem Yba.info81 : (Yba.prog.info? 81).map (fun i => (i.zero, i.size, i.bytes)) = some (some (.agg #[.pointer none, .pointer none, .pointer none]), 3, 24) := by kernel_rfl

/-- A row of n cells of type T at block b; the first k are told by f. -/
def RowF (w : World) (T : TypeId) (b k n : Nat) (f : Nat → Value) : Prop :=
  ∃ cur, w.heap[b]? = some (.cells cur T (0, 0)) ∧ cur.size = n ∧ ∀ i, i < k → cur[i]? = some (f i)
theorem RowF.below {w w' : World} {T : TypeId} {B b k n : Nat} {f : Nat → Value} (h : RowF w T b k n f) (hb : Below B w w') (hB : b < B) : RowF w' T b k n f := by
  obtain ⟨cur, h1, h2⟩ := h
  exact ⟨cur, by rw [hb.block b hB]; exact h1, h2⟩
theorem RowF.cell {w : World} {T : TypeId} {b k n : Nat} {f : Nat → Value} (h : RowF w T b k n f) {i : Nat} (hi : i < k) : w.cell? ⟨b, i, none⟩ = some (f i) := by
  obtain ⟨cur, h1, h2, h3⟩ := h
  exact cell_of_block h1 (h3 i hi)
theorem RowF.there {w : World} {T : TypeId} {b k n : Nat} {f : Nat → Value} (h : RowF w T b k n f) {i : Nat} (hi : i < n) : (∃ x, w.cell? ⟨b, i, none⟩ = some x) ∧ w.frozen? ⟨b, i, none⟩ = false := by
  obtain ⟨cur, h1, h2, h3⟩ := h
  exact ⟨⟨_, cell_of_block h1 (Array.getElem?_eq_getElem (by omega))⟩, free_of_block h1⟩
theorem RowF.set {w : World} {T : TypeId} {b k n : Nat} {f : Nat → Value} (h : RowF w T b k n f) (hk : k < n) (u : Value) : RowF (w.setCell ⟨b, k, none⟩ u) T b (k + 1) n (fun i => if i = k then u else f i) := by
  obtain ⟨cur, h1, h2, h3⟩ := h
  refine ⟨_, block_setCell h1 u, by simp [h2], fun i hi => ?_⟩
  by_cases hik : i = k
  · subst hik
    rw [Array.getElem?_setIfInBounds_self_of_lt (by omega)]; simp
  · rw [Array.getElem?_setIfInBounds_ne (by omega), h3 i (by omega)]; simp [hik]
theorem RowF.reset {w : World} {T : TypeId} {b k n j : Nat} {f : Nat → Value} (h : RowF w T b k n f) (hj : j < n) (u : Value) : RowF (w.setCell ⟨b, j, none⟩ u) T b k n (fun i => if i = j then u else f i) := by
  obtain ⟨cur, h1, h2, h3⟩ := h
  refine ⟨_, block_setCell h1 u, by simp [h2], fun i hi => ?_⟩
  by_cases hik : i = j
  · subst hik
    rw [Array.getElem?_setIfInBounds_self_of_lt (by omega)]; simp
  · rw [Array.getElem?_setIfInBounds_ne (by omega), h3 i (by omega)]; simp [hik]
theorem RowF.cong {w : World} {T : TypeId} {b k n : Nat} {f g : Nat → Value} (h : RowF w T b k n f) (hfg : ∀ i, i < k → f i = g i) : RowF w T b k n g := by
  obtain ⟨cur, h1, h2, h3⟩ := h
  exact ⟨cur, h1, h2, fun i hi => by rw [h3 i hi, hfg i hi]⟩
theorem RowF.lt {w : World} {T : TypeId} {b k n : Nat} {f : Nat → Value} (h : RowF w T b k n f) : b < w.heap.size := by
  obtain ⟨cur, h1, h2, h3⟩ := h
  exact heap_lt h1
theorem RowF.made {w w1 : World} {T : TypeId} {base n : Nat} {xs : List Value} {f : Nat → Value} (h : w1.ownsRow base T 1 (.slice (some ⟨w.heap.size, 0, none⟩) n n) n xs) : RowF w1 T w.heap.size 0 n f := by
  rcases h.2 with ⟨h, _⟩ | ⟨g, cap, cur, h, h1, h2, h3, h4, h5, _⟩
  · simp at h
  · simp only [Value.slice.injEq, Option.some.injEq, Addr.mk.injEq] at h
    obtain ⟨⟨rfl, _⟩, _, rfl⟩ := h
    exact ⟨cur, h2, by omega, fun i hi => by omega⟩

/-- A row of pointers at things that bear their number in cell 8. -/
def PtrRow (w : World) (T : TypeId) (b k n : Nat) (f : Nat → Nat) : Prop :=
  RowF w T b k n (fun i => .pointer (some ⟨f i, 0, none⟩)) ∧ ∀ i, i < k → b < f i ∧ w.cell? ⟨f i, 8, none⟩ = some (.int .i64 i)

theorem PtrRow.push {w : World} {T : TypeId} {b k n : Nat} {f : Nat → Nat} (h : PtrRow w T b k n f) (hk : k < n) {cs : Array Value} {t : TypeId} (hc : cs[8]? = some (.int .i64 k)) :
    PtrRow ((w.setCell ⟨b, k, none⟩ (.pointer (some ⟨w.heap.size, 0, none⟩))).alloc (.cells cs t (0, 0))) T b (k + 1) n (fun i => if i = k then w.heap.size else f i) := by
  have hlt := h.1.lt
  have hb := (Below.refl _ (w.setCell ⟨b, k, none⟩ (.pointer (some ⟨w.heap.size, 0, none⟩)))).alloc (Nat.le_refl _) (.cells cs t (0, 0))
  refine ⟨((h.1.set hk _).below hb (by simpa using hlt)).cong fun i hi => ?_, fun i hi => ?_⟩
  · by_cases hik : i = k
    · simp [hik]
    · simp [hik]
  · by_cases hik : i = k
    · subst hik
      simp only [if_true]
      refine ⟨hlt, ?_⟩
      refine cell_of_block (t := t) (fr := (0, 0)) (cs := cs) ?_ hc
      have := heap_alloc_new (w.setCell ⟨b, i, none⟩ (.pointer (some ⟨w.heap.size, 0, none⟩))) (.cells cs t (0, 0))
      rwa [World.size_setCell] at this
    · simp only [hik, if_false]
      obtain ⟨a1, a2⟩ := h.2 i (by omega)
      refine ⟨a1, Below.old hb ?_⟩
      rw [World.cell?_of_block (w := w) (Below.heap_setCell _ _ _ _ (by simp; omega))]
      exact a2
theorem PtrRow.below {w w' : World} {T : TypeId} {b k n : Nat} {f : Nat → Nat} (h : PtrRow w T b k n f) (hb : Below w.heap.size w w') : PtrRow w' T b k n f :=
  ⟨h.1.below hb h.1.lt, fun i hi => ⟨(h.2 i hi).1, Below.old hb (h.2 i hi).2⟩⟩

/-- What 'i < len(x) && x[i]' gives. -/
def bAt (n : Nat) (f : Nat → Bool) (i : Nat) : Bool := decide (i < n) && f i

def tAt (n : Nat) (f : Nat → Int) (i : Nat) : Int := if i < n ∧ f i < 0 then -1 else 1

/-- An argument that is a slice of bools, told by f. -/
def ArgB (w : World) (a : Option Addr) (len : Nat) (f : Nat → Bool) : Prop := ∀ i, i < len → ∃ x, a = some x ∧ w.cell? (x.add i) = some (.bool (f i))
def ArgI (w : World) (a : Option Addr) (len : Nat) (f : Nat → Int) : Prop := ∀ i, i < len → ∃ x, a = some x ∧ w.cell? (x.add i) = some (.int .i8 (f i))
def ArgA (w : World) (a : Option Addr) (len : Nat) (f : Nat → Int × Int × Int) : Prop := ∀ i, i < len → ∃ b o, a = some ⟨b, o, none⟩ ∧ w.cell? ⟨b, o + i * 3, none⟩ = some (.int .u8 (f i).1) ∧ w.cell? ⟨b, o + i * 3 + 1, none⟩ = some (.int .u8 (f i).2.1) ∧ w.cell? ⟨b, o + i * 3 + 2, none⟩ = some (.int .u8 (f i).2.2) ∧
  (0 ≤ (f i).1 ∧ (f i).1 < 256) ∧ (0 ≤ (f i).2.1 ∧ (f i).2.1 < 256) ∧ (0 ≤ (f i).2.2 ∧ (f i).2.2 < 256)

end Go.Proofs.Ybulkakko
