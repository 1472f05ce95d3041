/-
  The two tables of arcs, across and into, while they are filled.
-/
import Derived.Test.YbulkakkoWithC0
namespace Go.Proofs.Ybulkakko
open Go.RowKit
set_option linter.unusedVariables false

def arc3 (f g : Nat → Nat) (p : Nat × Nat) : List Value := [.pointer (some ⟨g p.1, 0, none⟩), .pointer (some ⟨g 0, 0, none⟩), .pointer (some ⟨f p.2, 0, none⟩)]
def flatA (f g : Nat → Nat) (l : List (Nat × Nat)) : List Value := l.flatMap (arc3 f g)
theorem flatA_snoc (f g : Nat → Nat) (l : List (Nat × Nat)) (p : Nat × Nat) : flatA f g (l ++ [p]) = flatA f g l ++ arc3 f g p := by simp [flatA]
theorem flatA_get (f g : Nat → Nat) (l : List (Nat × Nat)) (i j : Nat) (hi : i < l.length) (hj : j < 3) : (flatA f g l)[i * 3 + j]? = (arc3 f g (l.getD i (0, 0)))[j]? := by
  induction l generalizing i with
  | nil => simp at hi
  | cons p t ih =>
    have e : flatA f g (p :: t) = arc3 f g p ++ flatA f g t := by simp [flatA]
    rw [e]
    cases i with
    | zero => rw [List.getElem?_append_left (by simp [arc3]; omega)]; simp
    | succ i =>
      rw [List.getElem?_append_right (by simp [arc3]; omega)]
      have : (i + 1) * 3 + j - (arc3 f g p).length = i * 3 + j := by simp [arc3]; omega
      rw [this, ih i (by simpa using hi)]
      simp

theorem ownsRow_of_block {w w' : World} {base : Nat} {e : TypeId} {size : Nat} {v : Value} {n : Nat} {xs : List Value} (h : w.ownsRow base e size v n xs) (hb : ∀ b, v.ownBlock = some b → w'.heap[b]? = w.heap[b]?) : w'.ownsRow base e size v n xs := by
  refine ⟨h.1, ?_⟩
  rcases h.2 with h | ⟨g, cap, cur, rfl, h1, h2, h3⟩
  · exact .inl h
  · exact .inr ⟨g, cap, cur, rfl, h1, by rw [hb g rfl]; exact h2, h3⟩
theorem own_ge {w : World} {base : Nat} {e : TypeId} {size : Nat} {v : Value} {n : Nat} {xs : List Value} (h : w.ownsRow base e size v n xs) {b : Nat} (hb : v.ownBlock = some b) : base ≤ b ∧ b < w.heap.size := by
  rcases h.2 with ⟨rfl, _⟩ | ⟨g, cap, cur, rfl, h1, h2, h3⟩
  · cases hb
  · cases hb; exact ⟨h1, heap_lt h2⟩

structure Grd (w : World) (AC IN L R D : Nat) (f g : Nat → Nat) (V : Nat → Value) (X : Nat → List (Nat × Nat)) (k : Nat) : Prop where
  ai : AC < IN ∧ IN < D ∧ D ≤ w.heap.size
  rowA : RowF w 82 AC L L V
  rowI : RowF w 82 IN R R (fun i => V (L + i))
  own : ∀ s, s < L + R → w.ownsRow D 81 3 (V s) (X s).length (flatA f g (X s))
  len : ∀ s, s < L + R → (X s).length ≤ k
  rng : ∀ s, s < L + R → ∀ p ∈ X s, p.1 < R ∧ p.2 < L
  apart : ∀ s s', s < L + R → s' < L + R → s ≠ s' → ∀ b, (V s).ownBlock = some b → (V s').ownBlock ≠ some b

variable {AC IN L R D : Nat} {f g : Nat → Nat} {V : Nat → Value} {X : Nat → List (Nat × Nat)} {k : Nat}

theorem Grd.below {w w' : World} (h : Grd w AC IN L R D f g V X k) (hb : Below w.heap.size w w') : Grd w' AC IN L R D f g V X k where
  ai := ⟨h.ai.1, h.ai.2.1, Nat.le_trans h.ai.2.2 hb.size⟩
  rowA := h.rowA.below hb (h.rowA.lt)
  rowI := h.rowI.below hb (h.rowI.lt)
  own := fun s hs => ownsRow_of_block (h.own s hs) (fun b e => hb.block b (own_ge (h.own s hs) e).2)
  len := h.len
  rng := h.rng
  apart := h.apart

theorem Grd.push {w w1 w3 : World} (h : Grd w AC IN L R D f g V X k) (hb : Below w.heap.size w w1) (site : Nat) (hs : site < L + R) (fi vi : Nat) (hf : fi < R) (hv : vi < L) (ob : Obj) (g3 cap3 : Nat)
    (hg : (w1.alloc ob).grownBy w3 (V site).ownBlock) (hown : w3.ownsRow D 81 3 (.slice (some ⟨g3, 0, none⟩) ((X site).length + 1) cap3) ((X site).length + 1) (flatA f g (X site) ++ arc3 f g (fi, vi)))
    (hat : (V site).ownBlock = some g3 ∨ g3 = w1.heap.size + 1) (b o : Nat) (hbo : (site < L ∧ b = AC ∧ o = site) ∨ (L ≤ site ∧ b = IN ∧ site = L + o)) :
    Grd (w3.setCell ⟨b, o, none⟩ (.slice (some ⟨g3, 0, none⟩) ((X site).length + 1) cap3)) AC IN L R D f g (fun s => if s = site then .slice (some ⟨g3, 0, none⟩) ((X site).length + 1) cap3 else V s) (fun s => if s = site then X site ++ [(fi, vi)] else X s) (k + 1) ∧
    (∃ x, w3.cell? ⟨b, o, none⟩ = some x) ∧ w3.frozen? ⟨b, o, none⟩ = false ∧ w3.cell? ⟨b, o, none⟩ = some (V site) := by
  have h2 : Grd (w1.alloc ob) AC IN L R D f g V X k := (h.below hb).below ((Below.refl _ _).alloc (Nat.le_refl _) ob)
  have hkeep : ∀ c, c < D → w3.heap[c]? = (w1.alloc ob).heap[c]? := fun c hc => hg.block c (by have := h2.ai.2.2; omega) (fun e => by have := (own_ge (h2.own site hs) e.symm).1; omega)
  have hg3 : D ≤ g3 := by
    rcases hat with e | e
    · exact (own_ge (h2.own site hs) e).1
    · have := h.ai.2.2; have := hb.size; omega
  have hsz := hg.size
  obtain ⟨a1, a2, a3⟩ := h2.ai
  have rA : RowF w3 82 AC L L V := by
    obtain ⟨cur, q1, q2⟩ := h2.rowA
    exact ⟨cur, by rw [hkeep AC (by omega)]; exact q1, q2⟩
  have rI : RowF w3 82 IN R R (fun i => V (L + i)) := by
    obtain ⟨cur, q1, q2⟩ := h2.rowI
    exact ⟨cur, by rw [hkeep IN (by omega)]; exact q1, q2⟩
  have hbD : b < D := by rcases hbo with ⟨_, rfl, _⟩ | ⟨_, rfl, _⟩ <;> omega
  refine ⟨⟨⟨a1, a2, by simp; omega⟩, ?_, ?_, ?_, ?_, ?_, ?_⟩, ?_⟩
  · rcases hbo with ⟨c1, rfl, rfl⟩ | ⟨c1, rfl, rfl⟩
    · exact rA.reset c1 _
    · have e1 : RowF (w3.setCell ⟨b, o, none⟩ (.slice (some ⟨g3, 0, none⟩) ((X (L + o)).length + 1) cap3)) 82 AC L L V := by
        obtain ⟨cur, q1, q2⟩ := rA
        exact ⟨cur, by rw [Below.heap_setCell _ _ _ _ (by simp; omega)]; exact q1, q2⟩
      exact e1.cong fun i hi => by rw [if_neg (by omega)]
  · rcases hbo with ⟨c1, rfl, rfl⟩ | ⟨c1, rfl, rfl⟩
    · have e1 : RowF (w3.setCell ⟨b, o, none⟩ (.slice (some ⟨g3, 0, none⟩) ((X o).length + 1) cap3)) 82 IN R R (fun i => V (L + i)) := by
        obtain ⟨cur, q1, q2⟩ := rI
        exact ⟨cur, by rw [Below.heap_setCell _ _ _ _ (by simp; omega)]; exact q1, q2⟩
      exact e1.cong fun i hi => by rw [if_neg (by omega)]
    · refine (rI.reset (by omega) _).cong fun i hi => ?_
      by_cases e : i = o
      · simp [e]
      · rw [if_neg e, if_neg (by omega)]
  · intro s hs'
    by_cases e : s = site
    · subst e
      simp only [if_true, List.length_append, List.length_cons, List.length_nil, flatA_snoc]
      exact ownsRow_setCell_below hown hbD _
    · simp only [e, if_false]
      refine ownsRow_setCell_below (ownsRow_of_block (h2.own s hs') fun c hc => ?_) hbD _
      exact hg.block c (own_ge (h2.own s hs') hc).2 (fun e2 => h2.apart s site hs' hs e c hc e2.symm)
  · intro s hs'
    have := h2.len s hs'
    by_cases e : s = site
    · subst e; simp; omega
    · simp only [e, if_false]; omega
  · intro s hs' p hp
    by_cases e : s = site
    · subst e
      simp only [if_true, List.mem_append, List.mem_singleton] at hp
      rcases hp with hp | rfl
      · exact h2.rng s hs' p hp
      · exact ⟨hf, hv⟩
    · simp only [e, if_false] at hp
      exact h2.rng s hs' p hp
  · intro s s' hs1 hs2 hne c hc
    by_cases e : s = site
    · have e' : s' ≠ site := by omega
      simp only [e, if_true] at hc
      simp only [e', if_false]
      cases hc
      intro hh
      rcases hat with e2 | e2
      · exact h2.apart site s' hs hs2 (by omega) _ e2 hh
      · have := (own_ge ((h.below hb).own s' hs2) hh).2
        simp only at this
        omega
    · simp only [e, if_false] at hc
      by_cases e' : s' = site
      · simp only [e', if_true]
        intro hh
        cases hh
        rcases hat with e2 | e2
        · exact h2.apart site s hs hs1 (by omega) _ e2 hc
        · have := (own_ge ((h.below hb).own s hs1) hc).2
          simp only at this
          omega
      · simp only [e', if_false]
        exact h2.apart s s' hs1 hs2 hne c hc
  · rcases hbo with ⟨c1, rfl, rfl⟩ | ⟨c1, rfl, rfl⟩
    · have := rA.there c1
      exact ⟨this.1, this.2, rA.cell c1⟩
    · have := rI.there (i := o) (by omega)
      exact ⟨this.1, this.2, rI.cell (i := o) (by omega)⟩

theorem RowF.madeAll {w1 : World} {T : TypeId} {base b n : Nat} {u : Value} (h : w1.ownsRow base T 1 (.slice (some ⟨b, 0, none⟩) n n) n (madeCells #[u] (n * 1)).toList) : RowF w1 T b n n (fun _ => u) := by
  rcases h.2 with ⟨h, _⟩ | ⟨g, cap, cur, h, h1, h2, h3, h4, h5, h6⟩
  · simp at h
  · simp only [Value.slice.injEq, Option.some.injEq, Addr.mk.injEq] at h
    obtain ⟨⟨rfl, _⟩, _, rfl⟩ := h
    refine ⟨cur, h2, by omega, fun i hi => ?_⟩
    have e : (cur.toList.take (n * 1))[i]? = some u := by rw [h6]; simp [madeCells, hi, Nat.mod_one]
    rw [List.getElem?_take] at e
    split at e
    · simpa using e
    · cases e

theorem Grd.made {w : World} (hai : AC < IN ∧ IN < D ∧ D ≤ w.heap.size) (hA : RowF w 82 AC L L (fun _ => .slice none 0 0)) (hI : RowF w 82 IN R R (fun _ => .slice none 0 0)) : Grd w AC IN L R D f g (fun _ => .slice none 0 0) (fun _ => []) 0 where
  ai := hai
  rowA := hA
  rowI := hI
  own := fun s hs => ⟨rfl, .inl ⟨rfl, rfl⟩⟩
  len := fun s hs => Nat.le_refl _
  rng := fun s hs p hp => by cases hp
  apart := fun s s' _ _ _ b hb => by cases hb

theorem Grd.arcs {w : World} {LB RB : Nat} (h : Grd w AC IN L R D f g V X k) (hP : PtrRow w 53 LB L L f) (hQ : PtrRow w 54 RB R R g) (s : Nat) (hs : s < L + R) : Arcs w L R (V s) (X s) := by
  have hr := h.rng s hs
  rcases (h.own s hs).2 with ⟨e, e0⟩ | ⟨gb, cap, cur, e, h1, h2, h3, h4, h5, h6⟩
  · rw [e]
    exact ⟨none, 0, by rw [e0], fun hl => by omega⟩
  · rw [e]
    refine ⟨_, _, rfl, fun _ => ⟨gb, rfl, fun i hi => ?_⟩⟩
    have hm : (X s).getD i (0, 0) ∈ X s := by simp [hi]
    obtain ⟨p1, p2⟩ := hr _ hm
    have hcell : ∀ j, j < 3 → w.cell? ⟨gb, i * 3 + j, none⟩ = (arc3 f g ((X s).getD i (0, 0)))[j]? := fun j hj => by
      rw [← flatA_get f g (X s) i j hi hj, ← h6]
      rw [List.getElem?_take, if_pos (by omega)]
      simp [World.cell?, h2]
    exact ⟨g ((X s).getD i (0, 0)).1, _, f ((X s).getD i (0, 0)).2, hcell 0 (by omega), hcell 1 (by omega), hcell 2 (by omega), (hQ.2 _ p1).2, (hP.2 _ p2).2, p1, p2⟩
end Go.Proofs.Ybulkakko
