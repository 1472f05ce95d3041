/-
  The set of keys that Merge keeps: a map from (name, number) to bool that the call itself makes.
-/
import Derived.Test.YbulkakhwWalkD
import Derived.Maps.OwnOps
import Derived.Maps.Views
import Derived.DeepKeys4
namespace Go.Proofs.Ybulkakhw
open Go.RowKit Go.Maps

theorem seen_laidOut : laidOutB Yba.prog = true := by kernel_rfl
theorem law44 : Keyed Yba.prog 44 := Keyed.of_law (deep_law_laid seen_laidOut (m := 5) (by omega) (of_decide_eq_true (by kernel_rfl)) (by kernel_rfl) (by kernel_rfl))
theorem keyType44 : Yba.prog.keyType 44 = true := by kernel_rfl
theorem cells44 : Yba.prog.cellsOf 44 = 2 := by kernel_rfl
theorem cells9' : Yba.prog.cellsOf 9 = 1 := by kernel_rfl
theorem cells30' : Yba.prog.cellsOf 30 = 1 := by kernel_rfl
theorem zero4 (w : World) : (zeroValue 4).run Yba.prog w = .ok (.bool false) w := by kernel_rfl

/-- The key of a line. -/
def keyV (nm : ByteArray) (id : Int) : Value := .agg #[.string nm, .int .u32 id]
theorem keyV_inj {a b : ByteArray} {i j : Int} (h : keyV a i = keyV b j) : a = b ∧ i = j := by
  simpa [keyV] using h

theorem keyOf44 (nm : ByteArray) (id : Int) (h1 : nm.size ≤ maxLen) (h2 : (Lit.int .u32 id).wf = true) : ∃ kl, keyOf Yba.prog 44 (keyV nm id) = some kl := by
  obtain ⟨N, hN⟩ : ∃ N, Yba.prog.types.size + 1 = N + 2 := ⟨Yba.prog.types.size - 1, by
    have : 44 < Yba.prog.types.size := of_decide_eq_true (by kernel_rfl)
    omega⟩
  have hl : Yba.prog.keyLits (N + 2) 44 [.string nm, .int .u32 id] = some [.string nm.data.toList, .int .u32 id] := by
    simp [Program.keyLits, Yba.underlying44, cells44, Yba.underlying9, Yba.underlying30, cells9', cells30', h1, h2]
  refine ⟨.string (keyBytes [.string nm.data.toList, .int .u32 id]), ?_⟩
  unfold keyOf
  rw [Yba.underlying44]
  have hf : (keyV nm id).formed Yba.prog 44 = true := by simp [keyV, Value.formed, Yba.underlying44, cells44]
  simp only [keyType44, hf, Bool.and_self, if_true]
  rw [hN]
  have hc : (keyV nm id).cells.toList = [.string nm, .int .u32 id] := rfl
  rw [hc, hl]
  rfl

/-- Block mb of w is the set of the keys KL. -/
def SeenIs (w : World) (mb n : Nat) (KL : List Value) : Prop :=
  ∃ D : DataW Unit, w.ownsMap Yba.prog 44 (plainElem Yba.prog 4) mb n D ∧ IsMap D ∧ ∀ key kl, keyOf Yba.prog 44 key = some kl →
    (key ∈ KL → D.atKey kl (.lit (.bool false)) = .lit (.bool true)) ∧ (key ∉ KL → D.atKey kl (.lit (.bool false)) = .lit (.bool false))

theorem SeenIs.made (w : World) : SeenIs (w.alloc (.map #[] 0)) w.heap.size 0 [] :=
  ⟨.map [], World.ownsMap_made _ _ _ _, isMap_empty, fun key kl _ => ⟨fun h => (by cases h), fun _ => rfl⟩⟩

theorem SeenIs.kept {w w' : World} {mb n : Nat} {KL : List Value} {row : Option Nat} (h : SeenIs w mb n KL) (hg : w.grownBy w' row) (hne : some mb ≠ row) : SeenIs w' mb n KL := by
  obtain ⟨D, h1, h2, h3⟩ := h
  exact ⟨D, h1.kept hg hne, h2, h3⟩
theorem SeenIs.alloc {w : World} {mb n : Nat} {KL : List Value} (h : SeenIs w mb n KL) (o : Obj) : SeenIs (w.alloc o) mb n KL := h.kept (World.grownBy_alloc w o none) (by simp)
theorem SeenIs.block {w w' : World} {mb n : Nat} {KL : List Value} (h : SeenIs w mb n KL) (hb : w'.heap[mb]? = w.heap[mb]?) : SeenIs w' mb n KL := by
  obtain ⟨D, ⟨es, clock, h1, r⟩, h2, h3⟩ := h
  exact ⟨D, ⟨es, clock, hb.trans h1, r⟩, h2, h3⟩
theorem SeenIs.at {w : World} {mb n : Nat} {KL : List Value} (h : SeenIs w mb n KL) : ∃ es clock, w.heap[mb]? = some (.map es clock) := by
  obtain ⟨D, ⟨es, clock, h1, r⟩, h2, h3⟩ := h
  exact ⟨es, clock, h1⟩

theorem SeenIs.look {w : World} {mb n : Nat} {KL : List Value} (h : SeenIs w mb n KL) {key : Value} {kl : Lit} (hk : keyOf Yba.prog 44 key = some kl) :
    (key ∈ KL → (Instr.lookup 42 (.map (some mb)) key false).run Yba.prog w = .ok (.bool true) w) ∧ (key ∉ KL → (Instr.lookup 42 (.map (some mb)) key false).run Yba.prog w = .ok (.bool false) w) := by
  obtain ⟨D, h1, h2, h3⟩ := h
  obtain ⟨v, ps, hrun, hv⟩ := h1.lookup law44 Yba.underlying42 (zero4 w) (plainElem_bool Yba.underlying4 false) hk
  have hb : ∀ b : Bool, D.atKey kl (.lit (.bool false)) = .lit (.bool b) → v = .bool b := by
    intro b hb
    rw [hb] at hv
    unfold plainElem at hv
    rw [Yba.underlying4] at hv
    cases v <;> simp at hv
    rw [hv.1]
  exact ⟨fun hm => by rw [hrun, hb _ ((h3 key kl hk).1 hm)], fun hm => by rw [hrun, hb _ ((h3 key kl hk).2 hm)]⟩

theorem SeenIs.put {w' : World} {mb n : Nat} {KL : List Value} {D : DataW Unit} {key : Value} {kl : Lit} (h2 : IsMap D)
    (h3 : ∀ key kl, keyOf Yba.prog 44 key = some kl → (key ∈ KL → D.atKey kl (.lit (.bool false)) = .lit (.bool true)) ∧ (key ∉ KL → D.atKey kl (.lit (.bool false)) = .lit (.bool false)))
    (hk : keyOf Yba.prog 44 key = some kl) (h1 : w'.ownsMap Yba.prog 44 (plainElem Yba.prog 4) mb n (D.put kl (.lit (.bool true)))) : SeenIs w' mb n (KL ++ [key]) := by
  refine ⟨_, h1, h2.put _ _, fun key' kl' hk' => ?_⟩
  by_cases e : kl' = kl
  · subst e
    have e2 := law44.inj hk' hk
    subst e2
    rw [atKey_put_same h2 (law44.key hk)]
    exact ⟨fun _ => rfl, fun hn => absurd (by simp) hn⟩
  · rw [atKey_put_other e]
    have hne : key' ≠ key := fun h => e (by subst h; rw [hk] at hk'; exact (Option.some.inj hk').symm)
    exact ⟨fun hm => (h3 key' kl' hk').1 (by simpa [hne] using hm), fun hm => (h3 key' kl' hk').2 (by simpa [hne] using hm)⟩
end Go.Proofs.Ybulkakhw
