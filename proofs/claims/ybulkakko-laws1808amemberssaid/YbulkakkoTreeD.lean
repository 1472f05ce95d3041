/- The walks of 'unionAt', its closure, 'remembered'. -/
import Derived.Test.YbulkakkoTreeP
namespace Go.Proofs.Ybulkakko
open Go.RowKit
set_option linter.unusedVariables false
set_option linter.unusedSimpArgs false

/-! ### The frame: nothing that was there turns but the map m -/
structure Fr (m : Nat) (w w' : World) : Prop where
  was : ∃ es c, w.heap[m]? = some (.map es c)
  isM : ∃ es c, w'.heap[m]? = some (.map es c)
  gr : w.grownBy w' (some m)
theorem Fr.trans {m : Nat} {a b c : World} (h : Fr m a b) (k : Fr m b c) : Fr m a c :=
  ⟨h.was, k.isM, ⟨k.gr.os.trans h.gr.os, k.gr.tape.trans h.gr.tape, k.gr.output.trans h.gr.output, Nat.le_trans h.gr.size k.gr.size, fun i hi hne => (k.gr.block i (Nat.lt_of_lt_of_le hi h.gr.size) hne).trans (h.gr.block i hi hne)⟩⟩
theorem Fr.of_below {m : Nat} {w w' : World} (h : ∃ es c, w.heap[m]? = some (.map es c)) (hb : Below w.heap.size w w') : Fr m w w' :=
  ⟨h, by obtain ⟨es, c, h⟩ := h; exact ⟨es, c, bBelow hb h⟩, ⟨hb.os, hb.tape, hb.output, hb.size, fun i hi _ => hb.block i hi⟩⟩
theorem Fr.refl {m : Nat} {w : World} (h : ∃ es c, w.heap[m]? = some (.map es c)) : Fr m w w := Fr.of_below h (Below.refl _ _)
theorem Fr.alloc {m : Nat} {a b : World} (h : Fr m a b) (o : Obj) : Fr m a (b.alloc o) := h.trans (Fr.of_below h.isM (kA (Below.refl _ _) o))
theorem Fr.drew {m : Nat} {a b : World} (h : Fr m a b) : Fr m a b.drew := h.trans (Fr.of_below h.isM (Below.refl _ _).drew)
theorem Fr.below {m : Nat} {a b c : World} (h : Fr m a b) (k : Below b.heap.size b c) : Fr m a c := h.trans (Fr.of_below h.isM k)
theorem Fr.block {m : Nat} {w w' : World} (h : Fr m w w') {A : Nat} {cs : Array Value} {t : TypeId} {p : Nat × Nat} (hb : w.heap[A]? = some (.cells cs t p)) : w'.heap[A]? = some (.cells cs t p) := by
  rw [h.gr.block A (lt_of_block hb) ?_]
  · exact hb
  · intro e
    cases e
    obtain ⟨es, c, hm⟩ := h.was
    rw [hm] at hb
    cases hb
theorem Fr.cell {m : Nat} {w w' : World} (h : Fr m w w') {a : Addr} {v : Value} (hc : w.cell? a = some v) : w'.cell? a = some v := by
  have hl : a.block < w.heap.size := by
    rcases Nat.lt_or_ge a.block w.heap.size with h' | h'
    · exact h'
    · simp [World.cell?, Array.getElem?_eq_none h'] at hc
  have hne : some a.block ≠ some m := by
    intro e
    have e' : a.block = m := by cases e; rfl
    obtain ⟨es, c, hm⟩ := h.was
    rw [← e'] at hm
    simp [World.cell?, hm] at hc
  rw [World.cell?_of_block (h.gr.block _ hl hne)]
  exact hc
theorem In.fr {m : Nat} {w w' : World} {t : T} (ht : In w t) (h : Fr m w w') : In w' t := by
  obtain ⟨es, c, hm⟩ := h.was
  exact ht.grown hm h.gr

/-- What an entry of the memo map says. -/
def Rm (s t v : T) : Prop := ∃ h, s ≠ .nil ∧ WF h s ∧ WF h t ∧ Uni h s t v
/-- The memo map, of at most N entries. -/
def MInv (w : World) (m N : Nat) : Prop := ∃ es c, w.heap[m]? = some (.map es c) ∧ es.size ≤ N ∧ Entries w Rm es
theorem MInv.ex {w : World} {m N : Nat} (h : MInv w m N) : ∃ es c, w.heap[m]? = some (.map es c) := by
  obtain ⟨es, c, h, _⟩ := h; exact ⟨es, c, h⟩
theorem MInv.mono {w : World} {m N N' : Nat} (h : MInv w m N) (hN : N ≤ N') : MInv w m N' := by
  obtain ⟨es, c, h1, h2, h3⟩ := h; exact ⟨es, c, h1, by omega, h3⟩
theorem MInv.below {w w' : World} {m N : Nat} (h : MInv w m N) (hb : Below w.heap.size w w') : MInv w' m N := by
  obtain ⟨es, c, h1, h2, h3⟩ := h
  refine ⟨es, c, bBelow hb h1, h2, fun e he => ?_⟩
  obtain ⟨s, t, v, k1, k2, i1, i2, i3, k3⟩ := h3 e he
  exact ⟨s, t, v, k1, k2, i1.below hb, i2.below hb, i3.below hb, k3⟩
theorem MInv.alloc {w : World} {m N : Nat} (h : MInv w m N) (o : Obj) : MInv (w.alloc o) m N := h.below (kA (Below.refl _ _) o)
theorem MInv.drew {w : World} {m N : Nat} (h : MInv w m N) : MInv w.drew m N := h.below (Below.refl _ _).drew

def cst : Nat → Nat
  | 0 => 0
  | h + 1 => 2 * cst h + 1

def UnionAt (h : Nat) : Prop := ∀ (sb m N : Nat) (s t : T) (w : World), w.cell? ⟨sb, 3, none⟩ = some (.map (some m)) → In w s → In w t → WF h s → WF h t → MInv w m N → N + cst h ≤ 60000 →
    Calls Yba.prog 19 #[.pointer (some ⟨sb, 0, none⟩), .pointer s.addr, .pointer t.addr, .int .i64 h] w fun e w' =>
      ∃ v : T, e = .returned (.pointer v.addr) ∧ In w' v ∧ Fr m w w' ∧ MInv w' m (N + cst h) ∧ Uni h s t v

set_option maxRecDepth 100000 in
set_option maxHeartbeats 4000000 in
theorem union_nilL (sb h : Nat) (t : T) (w : World) (ht : In w t) :
    Calls Yba.prog 19 #[.pointer (some ⟨sb, 0, none⟩), .pointer none, .pointer t.addr, .int .i64 h] w fun e w' =>
      e = .returned (.pointer t.addr) ∧ Below w.heap.size w w' := by
  clear ht
  go_enter Yba.func19, Yba.ntmps19
  go_wp2
  go_ret
  refine ⟨rfl, ?_⟩
  repeat (first | exact Below.refl _ _ | apply kA)

set_option maxRecDepth 100000 in
set_option maxHeartbeats 4000000 in
theorem union_same (sb h b : Nat) (w : World) :
    Calls Yba.prog 19 #[.pointer (some ⟨sb, 0, none⟩), .pointer (some ⟨b, 0, none⟩), .pointer (some ⟨b, 0, none⟩), .int .i64 h] w fun e w' =>
      e = .returned (.pointer (some ⟨b, 0, none⟩)) ∧ Below w.heap.size w w' := by
  obtain ⟨j, hj, hz⟩ := info133
  have hq : ∀ w, (binOp .eql 31 (.pointer (some ⟨b, 0, none⟩)) (.pointer (some ⟨b, 0, none⟩))).run Yba.prog w = .ok (.bool true) w := fun w => run_eql_ptr_same w _ Yba.underlying31 hj
  clear hj hz
  go_enter Yba.func19, Yba.ntmps19
  go_wp2
  go_ret
  refine ⟨rfl, ?_⟩
  repeat (first | exact Below.refl _ _ | apply kA)

set_option maxRecDepth 100000 in
set_option maxHeartbeats 4000000 in
theorem union_nilR (sb h b : Nat) (w : World) :
    Calls Yba.prog 19 #[.pointer (some ⟨sb, 0, none⟩), .pointer (some ⟨b, 0, none⟩), .pointer none, .int .i64 h] w fun e w' =>
      e = .returned (.pointer (some ⟨b, 0, none⟩)) ∧ Below w.heap.size w w' := by
  go_enter Yba.func19, Yba.ntmps19
  go_wp2
  go_ret
  refine ⟨rfl, ?_⟩
  repeat (first | exact Below.refl _ _ | apply kA)

theorem box_at {w : World} {n : Nat} (h : n = w.heap.size) (o : Obj) : (w.alloc o).heap[n]? = some o := by rw [h]; exact alloc_at _ _
theorem alloc_size (w : World) (o : Obj) : (w.alloc o).heap.size = w.heap.size + 1 := by
  show (w.heap.push o).size = _
  simp
theorem boxes {w W : World} {o1 o2 o3 o4 : Obj} (h : (((w.alloc o1).alloc o2).alloc o3).alloc o4 = W) :
    W.heap[w.heap.size]? = some o1 ∧ W.heap[w.heap.size + 1]? = some o2 ∧ W.heap[w.heap.size + 1 + 1]? = some o3 ∧ W.heap[w.heap.size + 1 + 1 + 1]? = some o4 ∧ Below w.heap.size w W := by
  subst h
  refine ⟨bAlloc (bAlloc (bAlloc (alloc_at _ _) _) _) _, bAlloc (bAlloc (box_at ?_ _) _) _, bAlloc (box_at ?_ _) _, box_at ?_ _, kA (kA (kA (kA (Below.refl _ _) _) _) _) _⟩
  all_goals simp only [alloc_size]
theorem row2n {w : World} {A b b' : Nat} {x x' n n' : Int} {l l' r r' : T} (h : w.heap[A]? = some (.cells #[.pointer (some ⟨b, 0, none⟩), .pointer (some ⟨b', 0, none⟩)] 31 (0, 0))) (hi : In w (.node b x l r n)) (hj : In w (.node b' x' l' r' n')) : Row w A [.node b x l r n, .node b' x' l' r' n'] := row2 h hi hj

set_option maxRecDepth 100000 in
set_option maxHeartbeats 4000000 in
theorem union0 (sb b b' : Nat) (x x' n n' : Int) (l r l' r' : T) (w : World) (hs : In w (.node b x l r n)) (ht : In w (.node b' x' l' r' n')) (hne : T.node b x l r n ≠ .node b' x' l' r' n') :
    Calls Yba.prog 19 #[.pointer (some ⟨sb, 0, none⟩), .pointer (some ⟨b, 0, none⟩), .pointer (some ⟨b', 0, none⟩), .int .i64 0] w fun e w' =>
      ∃ v : T, e = .returned (.pointer v.addr) ∧ In w' v ∧ Below w.heap.size w w' ∧ LeafR (bits .or .u64 x x') [.node b x l r n, .node b' x' l' r' n'] v := by
  have hq : ∀ o1 o2 o3 o4, (binOp .eql 31 (.pointer (some ⟨b, 0, none⟩)) (.pointer (some ⟨b', 0, none⟩))).run Yba.prog ((((w.alloc o1).alloc o2).alloc o3).alloc o4) = .ok (.bool false) ((((w.alloc o1).alloc o2).alloc o3).alloc o4) := fun o1 o2 o3 o4 => by
    have := run_eql_tree ((((hs.alloc o1).alloc o2).alloc o3).alloc o4) ((((ht.alloc o1).alloc o2).alloc o3).alloc o4)
    rw [decide_eq_false hne] at this
    exact this
  have HS : Hid (In w (.node b x l r n)) := hs
  have HT : Hid (In w (.node b' x' l' r' n')) := ht
  clear hs ht
  go_enter Yba.func19, Yba.ntmps19
  go_wp2_with fail
  generalize hw4 : World.alloc (World.alloc (World.alloc (World.alloc w _) _) _) _ = wq
  obtain ⟨-, k2, k3, -, B4⟩ := boxes hw4
  have c5 := cell_of k2 0 _ rfl
  have c6 := cell_of k3 0 _ rfl
  have HS2 : Hid (In wq (.node b x l r n)) := HS.out.below B4
  have HT2 : Hid (In wq (.node b' x' l' r' n')) := HT.out.below B4
  have d0 := cell_of HS2.out.1 0 (.int .u64 x) rfl
  have d1 := cell_of HT2.out.1 0 (.int .u64 x') rfl
  generalize w.heap.size + 1 + 1 + 1 = p7 at *
  generalize w.heap.size + 1 + 1 = p6 at *
  generalize w.heap.size + 1 = p5 at *
  clear hw4 hq k2 k3 HS HT
  go_region_held3 (fun W => W.cell? ⟨p5, 0, none⟩ = some (.pointer (some ⟨b, 0, none⟩)) ∧ W.cell? ⟨p6, 0, none⟩ = some (.pointer (some ⟨b', 0, none⟩)) ∧ W.cell? ⟨b, 0, none⟩ = some (.int .u64 x) ∧ W.cell? ⟨b', 0, none⟩ = some (.int .u64 x'))
    (first | (dsimp only; go_split_ands; exact ⟨by assumption, by assumption, by assumption, by assumption⟩) | go_keep | (go_split_ands; exact ⟨kOld (by assumption) (by assumption), kOld (by assumption) (by assumption), kOld (by assumption) (by assumption), kOld (by assumption) (by assumption)⟩))
    (first
      | (go_at_call 26; refine (leaf_any _ _ [.node b x l r n, .node b' x' l' r' n'] _ (row2n (by with_reducible repeat (first | exact alloc_at _ _ | apply bDrew | apply bAlloc | refine bBelow (by assumption) ?_)) (by with_reducible repeat (first | exact HS2.out | apply In.drew | apply In.alloc | refine In.below (by assumption) ?_)) (by with_reducible repeat (first | exact HT2.out | apply In.drew | apply In.alloc | refine In.below (by assumption) ?_))) (by simp)).mono ?_; rintro e wD ⟨vD, rfl, ID, BD, RD⟩; dsimp only))
  go_wp2
  go_ret
  exact ⟨vD, rfl, ID, kT B4 (by with_reducible repeat (first | exact Below.refl _ _ | apply Below.drew | apply kA | refine kT ?_ (by assumption))), RD⟩
end Go.Proofs.Ybulkakko
