/-
  The trip as LawS1808CWithin builds it.
-/
import Derived.Test.YbulkakkoGrd
namespace Go.Proofs.Ybulkakko
open Go.RowKit
set_option linter.unusedVariables false

theorem laid_of {wf wg : World} {AC IN L R D LB RB WB CB TB la : Nat} {f g : Nat → Nat} {V : Nat → Value} {X : Nat → List (Nat × Nat)} {rc wl : Nat → Bool} {ts : Nat → Int} (G : Grd wf AC IN L R D f g V X la) (P : PtrRow wf 53 LB L L f) (Q : PtrRow wf 54 RB R R g)
    (WL : RowF wf 4 WB L L (fun i => .bool (wl i))) (RC : RowF wf 4 CB R R (fun i => .bool (rc i))) (TS : RowF wf 74 TB (L + R) (L + R) (fun i => .int .i8 (ts i))) (hts : ∀ i, ts i = 1 ∨ ts i = -1)
    (hw : ((((wf.alloc (.cells #[.slice none 0 0, .slice none 0 0, .slice none 0 0, .slice none 0 0, .slice none 0 0, .slice none 0 0, .slice none 0 0, .slice (some ⟨WB, 0, none⟩) L L, .slice none 0 0, .slice none 0 0, .slice none 0 0] 91)).alloc
      (.cells #[.slice none 0 0, .pointer none, .slice none 0 0, .slice none 0 0, .slice none 0 0, .slice (some ⟨RB, 0, none⟩) R R, .slice none 0 0, .slice (some ⟨LB, 0, none⟩) L L, .slice none 0 0, .slice none 0 0, .slice none 0 0, .slice none 0 0, .slice none 0 0, .slice none 0 0, .pointer none, .map none, .slice none 0 0, .pointer none, .slice none 0 0, .slice none 0 0, .pointer (some ⟨wf.heap.size, 0, none⟩), .nilIface] 105)).alloc
      (.cells #[.pointer none, .slice (some ⟨IN, 0, none⟩) R R, .slice (some ⟨AC, 0, none⟩) L L, .slice none 0 0] 111)).alloc
      (.cells #[.pointer (some ⟨wf.heap.size + 1, 0, none⟩), .slice none 0 0, .slice none 0 0, .slice none 0 0, .pointer none, .slice (some ⟨CB, 0, none⟩) R R, .slice none 0 0, .slice none 0 0, .slice none 0 0, .slice none 0 0, .slice (some ⟨TB, 0, none⟩) (L + R) (L + R), .slice none 0 0, .slice none 0 0, .slice none 0 0, .slice none 0 0, .pointer (some ⟨wf.heap.size + 1 + 1, 0, none⟩), .slice none 0 0, .slice none 0 0, .bool false, .int .i64 0, .slice none 0 0, .slice none 0 0, .bool false, .pointer none, .slice none 0 0, .bool false, .slice none 0 0, .pointer none] 123)) = wg) :
    Laid wg (wf.heap.size + 1 + 1 + 1) (wf.heap.size + 1) wf.heap.size (wf.heap.size + 1 + 1) CB TB LB WB IN AC L R rc wl ts X (fun i => X (L + i)) ∧ Below wf.heap.size wf wg ∧ PtrRow wg 53 LB L L f ∧ PtrRow wg 54 RB R R g := by
  subst hw
  generalize ho1 : (Obj.cells #[.slice none 0 0, .slice none 0 0, .slice none 0 0, .slice none 0 0, .slice none 0 0, .slice none 0 0, .slice none 0 0, .slice (some ⟨WB, 0, none⟩) L L, .slice none 0 0, .slice none 0 0, .slice none 0 0] 91 (0, 0)) = o1
  generalize ho2 : (Obj.cells #[.slice none 0 0, .pointer none, .slice none 0 0, .slice none 0 0, .slice none 0 0, .slice (some ⟨RB, 0, none⟩) R R, .slice none 0 0, .slice (some ⟨LB, 0, none⟩) L L, .slice none 0 0, .slice none 0 0, .slice none 0 0, .slice none 0 0, .slice none 0 0, .slice none 0 0, .pointer none, .map none, .slice none 0 0, .pointer none, .slice none 0 0, .slice none 0 0, .pointer (some ⟨wf.heap.size, 0, none⟩), .nilIface] 105 (0, 0)) = o2
  generalize ho3 : (Obj.cells #[.pointer none, .slice (some ⟨IN, 0, none⟩) R R, .slice (some ⟨AC, 0, none⟩) L L, .slice none 0 0] 111 (0, 0)) = o3
  generalize ho4 : (Obj.cells #[.pointer (some ⟨wf.heap.size + 1, 0, none⟩), .slice none 0 0, .slice none 0 0, .slice none 0 0, .pointer none, .slice (some ⟨CB, 0, none⟩) R R, .slice none 0 0, .slice none 0 0, .slice none 0 0, .slice none 0 0, .slice (some ⟨TB, 0, none⟩) (L + R) (L + R), .slice none 0 0, .slice none 0 0, .slice none 0 0, .slice none 0 0, .pointer (some ⟨wf.heap.size + 1 + 1, 0, none⟩), .slice none 0 0, .slice none 0 0, .bool false, .int .i64 0, .slice none 0 0, .slice none 0 0, .bool false, .pointer none, .slice none 0 0, .bool false, .slice none 0 0, .pointer none] 123 (0, 0)) = o4
  have b1 : Below wf.heap.size wf (wf.alloc o1) := (Below.refl _ wf).alloc (Nat.le_refl _) o1
  have b4 : Below wf.heap.size wf ((((wf.alloc o1).alloc o2).alloc o3).alloc o4) := (((b1.alloc (by simp) o2).alloc (by simp; omega) o3).alloc (by simp; omega) o4)
  have k1 : ((((wf.alloc o1).alloc o2).alloc o3).alloc o4).heap[wf.heap.size]? = some o1 := by
    rw [Below.heap_alloc _ _ _ (by simp; omega), Below.heap_alloc _ _ _ (by simp; omega), Below.heap_alloc _ _ _ (by simp)]; exact heap_alloc_new _ _
  have k2 : ((((wf.alloc o1).alloc o2).alloc o3).alloc o4).heap[wf.heap.size + 1]? = some o2 := by
    rw [Below.heap_alloc _ _ _ (by simp), Below.heap_alloc _ _ _ (by simp)]
    have := heap_alloc_new (wf.alloc o1) o2; simpa using this
  have k3 : ((((wf.alloc o1).alloc o2).alloc o3).alloc o4).heap[wf.heap.size + 1 + 1]? = some o3 := by
    rw [Below.heap_alloc _ _ _ (by simp)]
    have := heap_alloc_new ((wf.alloc o1).alloc o2) o3; simpa using this
  have k4 : ((((wf.alloc o1).alloc o2).alloc o3).alloc o4).heap[wf.heap.size + 1 + 1 + 1]? = some o4 := by
    have := heap_alloc_new (((wf.alloc o1).alloc o2).alloc o3) o4; simpa using this
  subst ho1 ho2 ho3 ho4
  refine ⟨⟨cell_of_block k4 rfl, cell_of_block k4 rfl, cell_of_block k4 rfl, cell_of_block k4 rfl, cell_of_block k4 rfl, cell_of_block k4 rfl, cell_of_block k4 rfl, cell_of_block k2 rfl, cell_of_block k2 rfl, cell_of_block k1 rfl, cell_of_block k3 rfl, cell_of_block k3 rfl, ?_, ?_, ?_, ?_, ?_⟩, b4, P.below b4, Q.below b4⟩
  · exact fun i hi => Below.old b4 (RC.cell hi)
  · exact fun i hi => Below.old b4 (WL.cell hi)
  · exact fun i hi => ⟨Below.old b4 (TS.cell hi), hts i⟩
  · exact fun i hi => ⟨V i, Below.old b4 (G.rowA.cell hi), (G.arcs P Q i (by omega)).below b4⟩
  · exact fun i hi => ⟨V (L + i), Below.old b4 (G.rowI.cell hi), (G.arcs P Q (L + i) (by omega)).below b4⟩
theorem tAt_or (n : Nat) (f : Nat → Int) (i : Nat) : tAt n f i = 1 ∨ tAt n f i = -1 := by
  unfold tAt; split
  · exact .inr rfl
  · exact .inl rfl
end Go.Proofs.Ybulkakko
