/-
  Merge where the texts are the same bytes.
-/
import Derived.Test.YbulkakhwSeen
import Derived.Deep.RegionLaw
namespace Go.Proofs.Ybulkakhw
open Go.RowKit Go.Maps
attribute [local go_sem ↓] Go.wp_at_zero Go.wp_at_succ

/-- W' is W but for the blocks X and new ones. -/
structure Kb (X : Nat → Prop) (W W' : World) : Prop where
  os : W'.os = W.os
  tape : W'.tape = W.tape
  output : W'.output = W.output
  size : W.heap.size ≤ W'.heap.size
  block : ∀ b, b < W.heap.size → ¬ X b → W'.heap[b]? = W.heap[b]?

theorem Kb.of_below {X : Nat → Prop} {W W' : World} (h : Below W.heap.size W W') : Kb X W W' := ⟨h.os, h.tape, h.output, h.size, fun b hb _ => h.block b hb⟩
theorem Kb.step {X : Nat → Prop} {W W1 W2 : World} (h : Kb X W W1) (h2 : Below W1.heap.size W1 W2) : Kb X W W2 :=
  ⟨h2.os.trans h.os, h2.tape.trans h.tape, h2.output.trans h.output, Nat.le_trans h.size h2.size, fun b hb hx => (h2.block b (Nat.lt_of_lt_of_le hb h.size)).trans (h.block b hb hx)⟩
theorem Kb.grown {X : Nat → Prop} {W W1 W2 : World} {row : Option Nat} (h : Kb X W W1) (h2 : W1.grownBy W2 row) (hr : ∀ b, row = some b → W.heap.size ≤ b ∨ X b) : Kb X W W2 :=
  ⟨h2.os.trans h.os, h2.tape.trans h.tape, h2.output.trans h.output, Nat.le_trans h.size h2.size, fun b hb hx => by
    rw [h2.block b (Nat.lt_of_lt_of_le hb h.size) (fun e => (hr b e.symm).elim (fun h => by omega) hx)]
    exact h.block b hb hx⟩
theorem Kb.setCell {X : Nat → Prop} {W W1 : World} (h : Kb X W W1) {a : Addr} (ha : W.heap.size ≤ a.block ∨ X a.block) (u : Value) : Kb X W (W1.setCell a u) :=
  ⟨h.os, h.tape, h.output, by have := h.size; simp [World.setCell]; exact this, fun b hb hx => by
    rw [Below.heap_setCell _ _ _ _ (fun e => by subst e; exact ha.elim (fun h => by omega) hx)]
    exact h.block b hb hx⟩

theorem run_makeMap_hint (n : Int) (w : World) : (Instr.makeMap 42 (some (.int .i64 n))).run Yba.prog w = .ok (.map (some w.heap.size)) (w.alloc (.map #[] 0)) := by
  simp [Instr.makeMap, run_underlying Yba.underlying42, asInt, asIntOf, Result.andThen]

/-- A line's key can be read as a key. -/
def Sg.keyed (s : Sg) : Prop := s.name.size ≤ maxLen ∧ (Lit.int .u32 s.key).wf = true
def Sg.keyv (s : Sg) : Value := keyV s.name s.key

/-- 'm[k]' in the set, at the operation. -/
theorem wpList_lookup_seen {P : Program} (w : World) {ops : Array Oper} {rest : List Oper} {o : Oper} {a : Act} {Q : Exit → Act → World → Prop}
    (hg : o.guard = none) (m x : Operand) (t : TypeId) (hop : o.op = Op.lookup t m x false) (mv key : Value) (b : Bool) (hm : a.eval m = mv) (hx : a.eval x = key)
    (hrun : (Instr.lookup t mv key false).run P w = .ok (.bool b) w) (hK : wpList P ops Q rest (a.put o.dst (.bool b)) w) : wpList P ops Q (o :: rest) a w := by
  refine wpList_plain hg fun K' hK' => ?_
  unfold Oper.wp
  simp [execOp, hop, hm, hx, hrun, Result.andThen]
  exact hK' _ _ hK

/-! ### The plain function -/
abbrev Dt := ByteArray × Int × List Int
/-- Is there a line of this key? -/
def hasKey (acc : List Dt) (s : Dt) : Bool := acc.any fun t => decide (t.1 = s.1) && decide (t.2.1 = s.2.1)
def mergeStep (acc : List Dt) (s : Dt) : List Dt := if hasKey acc s then acc else acc ++ [s]
def mergeTo (A B : List Dt) (i : Nat) : List Dt := (B.take i).foldl mergeStep A
theorem mergeTo_zero (A B : List Dt) : mergeTo A B 0 = A := rfl
theorem mergeTo_succ (A B : List Dt) (i : Nat) (h : i < B.length) : mergeTo A B (i + 1) = mergeStep (mergeTo A B i) B[i] := by
  unfold mergeTo
  rw [List.take_succ_eq_append_getElem h, List.foldl_append]
  rfl
theorem hasKey_iff (M : List Sg) (s : Sg) : hasKey (M.map Sg.data) s.data = true ↔ s.keyv ∈ M.map Sg.keyv := by
  unfold hasKey
  rw [List.any_eq_true, List.mem_map]
  constructor
  · rintro ⟨t, ht, h⟩
    obtain ⟨t, htm, rfl⟩ := List.mem_map.1 ht
    rw [Bool.and_eq_true] at h
    have e1 : t.name = s.name := of_decide_eq_true h.1
    have e2 : t.key = s.key := of_decide_eq_true h.2
    exact ⟨t, htm, by unfold Sg.keyv; rw [e1, e2]⟩
  · rintro ⟨t, htm, h⟩
    obtain ⟨h1, h2⟩ := keyV_inj h
    exact ⟨t.data, List.mem_map.2 ⟨t, htm, rfl⟩, by rw [Bool.and_eq_true]; exact ⟨decide_eq_true h1, decide_eq_true h2⟩⟩

/-! ### Worlds -/
/-- Every row of cells is as it was. -/
def CellsKept (w w' : World) : Prop := ∀ (b : Nat) (cs : Array Value) (t : TypeId) (fr : Nat × Nat), w.heap[b]? = some (.cells cs t fr) → w'.heap[b]? = some (.cells cs t fr)
theorem CellsKept.refl (w : World) : CellsKept w w := fun _ _ _ _ h => h
theorem CellsKept.alloc {w w' : World} (h : CellsKept w w') (o : Obj) : CellsKept w (w'.alloc o) := fun b cs t fr hb => by
  have := h b cs t fr hb
  rw [Below.heap_alloc _ _ _ (heap_lt this)]
  exact this
theorem CellsKept.mapped {w w1 w2 : World} (h : CellsKept w w1) {mb : Nat} (hm : ∃ es clock, w1.heap[mb]? = some (.map es clock)) (hg : w1.grownBy w2 (some mb)) : CellsKept w w2 := fun b cs t fr hb => by
  have h1 := h b cs t fr hb
  obtain ⟨es, clock, hm⟩ := hm
  rw [hg.block b (heap_lt h1) (fun e => by cases e; rw [h1] at hm; cases hm)]
  exact h1
theorem SigRow.cellsKept {w w' : World} {base : Nat} {v : Value} {L : List Sg} (h : SigRow w base v L) (hk : CellsKept w w') : SigRow w' base v L := by
  refine ⟨⟨h.1.1, ?_⟩, fun s hs => (h.2 s hs).kept fun b cur hb => hk _ _ _ _ hb⟩
  rcases h.1.2 with h0 | ⟨g, cap, cur, h1, h2, h3, r⟩
  · exact .inl h0
  · exact .inr ⟨g, cap, cur, h1, h2, hk _ _ _ _ h3, r⟩
/-- The blocks that Merge may write: n's note and n's row. -/
def mayW (nb : Nat) (v : Value) (b : Nat) : Prop := b = nb ∨ some b = v.ownBlock
theorem own_cells {w : World} {base : Nat} {v : Value} {L : List Sg} {b : Nat} (h : SigRow w base v L) (hb : v.ownBlock = some b) : ∃ cur, w.heap[b]? = some (.cells cur 32 (0, 0)) := by
  rcases h.1.2 with ⟨rfl, _⟩ | ⟨g, cap, cur, rfl, _, h3, _⟩
  · simp [Value.ownBlock] at hb
  · simp only [Value.ownBlock, Option.some.injEq] at hb
    subst hb
    exact ⟨cur, h3⟩
theorem own_ne {w : World} {base : Nat} {v : Value} {L : List Sg} {b : Nat} {cs : Array Value} {t : TypeId} {fr : Nat × Nat} (h : SigRow w base v L) (hb : w.heap[b]? = some (.cells cs t fr)) (ht : t ≠ 32) : some b ≠ v.ownBlock := by
  intro e
  obtain ⟨cur, h1⟩ := own_cells h e.symm
  rw [hb] at h1
  simp only [Option.some.injEq, Obj.cells.injEq] at h1
  exact ht h1.2.1

theorem NoteIn.kb {W W' : World} {nb ob l c n k l' c' n' k' : Nat} {p q p' q' : Option Addr} {xs ys : List Int} {M N : List Sg} (h1 : NoteIn W nb p l c q n k xs M) (h2 : NoteIn W ob p' l' c' q' n' k' ys N)
    (hne : nb ≠ ob) (hrow : (Value.slice q n k).ownBlock = none ∨ (Value.slice q n k).ownBlock ≠ (Value.slice q' n' k').ownBlock) (hk : Kb (mayW nb (.slice q n k)) W W') : NoteIn W' ob p' l' c' q' n' k' ys N := by
  have hnb : ∀ (b : Nat) (cs : Array Value) (t : TypeId) (fr : Nat × Nat), W.heap[b]? = some (.cells cs t fr) → t ≠ 29 → b ≠ nb := by
    intro b cs t fr hb ht e
    subst e
    rw [h1.blk] at hb
    simp only [Option.some.injEq, Obj.cells.injEq] at hb
    exact ht hb.2.1.symm
  have k5 : ∀ (b : Nat) (cur : Array Value), W.heap[b]? = some (.cells cur 5 (0, 0)) → W'.heap[b]? = some (.cells cur 5 (0, 0)) := by
    intro b cur hb
    rw [hk.block b (heap_lt hb) (fun hx => hx.elim (hnb b _ _ _ hb (by decide)) (own_ne h1.row hb (by decide)))]
    exact hb
  refine ⟨?_, h2.txt.kept k5, ⟨h2.row.1.1, ?_⟩, fun s hs => (h2.row.2 s hs).kept k5⟩
  · rw [hk.block ob (heap_lt h2.blk) (fun hx => hx.elim (fun e => hne e.symm) (own_ne h1.row h2.blk (by decide)))]
    exact h2.blk
  · rcases h2.row.1.2 with h0 | ⟨g, cap, cur, e, hg2, h3, r⟩
    · exact .inl h0
    · refine .inr ⟨g, cap, cur, e, hg2, ?_, r⟩
      rw [hk.block g (heap_lt h3) (fun hx => ?_)]
      · exact h3
      · rcases hx with hx | hx
        · exact hnb g _ _ _ h3 (by decide) hx
        · have : (Value.slice q' n' k').ownBlock = some g := by rw [e]; rfl
          rcases hrow with hr | hr
          · rw [hr] at hx; cases hx
          · exact hr (by rw [this, hx])

theorem NoteIn.txt_kb {W W' : World} {nb l c n k ob l' c' n' k' : Nat} {p q p' q' : Option Addr} {xs ys : List Int} {M N : List Sg} (h1 : NoteIn W nb p l c q n k xs M) (h2 : NoteIn W ob p' l' c' q' n' k' ys N) (hk : Kb (mayW nb (.slice q n k)) W W') : (Sg.mk ByteArray.empty 0 p' l' c' ys).ok W' := by
  refine h2.txt.kept fun b cur hb => ?_
  rw [hk.block b (heap_lt hb) (fun hx => hx.elim (fun e => ?_) (own_ne h1.row hb (by decide)))]
  · exact hb
  · subst e
    have h3 := h1.blk
    rw [hb] at h3
    simp only [Option.some.injEq, Obj.cells.injEq] at h3
    exact absurd h3.2.1 (by decide)

/-- Behind i lines of the other note. -/
structure St2 (W : World) (nb mb l c : Nat) (p : Option Addr) (v0 : Value) (A B : List Dt) (lim i : Nat) (q2 : Option Addr) (n2 k2 : Nat) (M2 : List Sg) (wr : World) : Prop where
  blk : wr.heap[nb]? = some (.cells #[.slice p l c, .slice q2 n2 k2] 29 (0, 0))
  row : SigRow wr 0 (.slice q2 n2 k2) M2
  len : M2.length ≤ lim + i
  seen : SeenIs wr mb (lim + i) (M2.map Sg.keyv)
  data : M2.map Sg.data = mergeTo A B i
  kb : Kb (mayW nb v0) W wr
  lies : (Value.slice q2 n2 k2).ownBlock = v0.ownBlock ∨ ∃ b, (Value.slice q2 n2 k2).ownBlock = some b ∧ W.heap.size ≤ b

/-- A line whose key is there: nothing but new blocks. -/
theorem St2.skip {W wr w1 : World} {nb mb l c : Nat} {p : Option Addr} {v0 : Value} {A B : List Dt} {lim i : Nat} {q2 : Option Addr} {n2 k2 : Nat} {M2 : List Sg} {s : Sg} (h : St2 W nb mb l c p v0 A B lim i q2 n2 k2 M2 wr)
    (hb : Below wr.heap.size wr w1) (hi : i < B.length) (hs : s.data = B[i]) (hk : s.keyv ∈ M2.map Sg.keyv) : St2 W nb mb l c p v0 A B lim (i + 1) q2 n2 k2 M2 w1 := by
  refine ⟨block_below h.blk hb, h.row.below hb, by have := h.len; omega, ?_, ?_, h.kb.step hb, h.lies⟩
  · obtain ⟨es, clock, hm⟩ := h.seen.at
    obtain ⟨D, h1, h2⟩ := h.seen.block (w' := w1) (hb.block mb (heap_lt hm))
    exact ⟨D, h1.mono (by omega), h2⟩
  · rw [mergeTo_succ _ _ _ hi, ← h.data, ← hs, mergeStep, if_pos ((hasKey_iff M2 s).2 hk)]

/-- A new line: the set grows, the row grows, the note's field is stored. -/
theorem St2.push {W wr w1 w3 : World} {nb mb l c : Nat} {p : Option Addr} {v0 : Value} {A B : List Dt} {lim i : Nat} {q2 : Option Addr} {n2 k2 g3 cap3 : Nat} {M2 : List Sg} {s : Sg} (h : St2 W nb mb l c p v0 A B lim i q2 n2 k2 M2 wr)
    (hck : CellsKept wr w1) (hkb : Kb (mayW nb v0) W w1) (hsz : wr.heap.size ≤ w1.heap.size) (hseen : SeenIs w1 mb (lim + i + 1) (M2.map Sg.keyv ++ [s.keyv])) (hok : s.ok w1) (hi : i < B.length) (hs : s.data = B[i]) (hk : s.keyv ∉ M2.map Sg.keyv)
    (hg : (w1.alloc s.obj).grownBy w3 (Value.slice q2 n2 k2).ownBlock) (hown : w3.ownsRow 0 32 3 (.slice (some ⟨g3, 0, none⟩) (M2.length + 1) cap3) (M2.length + 1) (flat M2 ++ s.cells))
    (hat : (Value.slice q2 n2 k2).ownBlock = some g3 ∨ g3 = w1.heap.size + 1) :
    St2 W nb mb l c p v0 A B lim (i + 1) (some ⟨g3, 0, none⟩) (M2.length + 1) cap3 (M2 ++ [s]) (w3.setCell ⟨nb, 1, none⟩ (.slice (some ⟨g3, 0, none⟩) (M2.length + 1) cap3)) ∧
    ∃ cs, w3.heap[nb]? = some (.cells cs 29 (0, 0)) ∧ cs[1]? = some (.slice q2 n2 k2) := by
  have hrow1 : SigRow w1 0 (.slice q2 n2 k2) M2 := h.row.cellsKept hck
  have hblk1 := hck _ _ _ _ h.blk
  have hrow3 : SigRow w3 0 (.slice (some ⟨g3, 0, none⟩) (M2.length + 1) cap3) (M2 ++ [s]) := hrow1.push (Below.refl _ _) hok hg hown
  have hblk3 : w3.heap[nb]? = some (.cells #[.slice p l c, .slice q2 n2 k2] 29 (0, 0)) := by
    rw [hg.block nb (by have := heap_lt hblk1; simp; omega) (own_ne hrow1 hblk1 (by decide)), Below.heap_alloc _ _ _ (heap_lt hblk1)]
    exact hblk1
  have hne3 : some nb ≠ (Value.slice (some ⟨g3, 0, none⟩) (M2.length + 1) cap3).ownBlock := own_ne hrow3 hblk3 (by decide)
  have hkb3 : Kb (mayW nb v0) W w3 := by
    refine Kb.grown (hkb.step ((Below.refl _ _).alloc (Nat.le_refl _) s.obj)) hg ?_
    intro b hb
    rcases h.lies with e | ⟨b', e, hb'⟩
    · exact .inr (.inr (by rw [← e, hb]))
    · rw [hb] at e; cases e; exact .inl hb'
  refine ⟨⟨?_, ?_, ?_, ?_, ?_, hkb3.setCell (.inr (.inl rfl)) _, ?_⟩, _, hblk3, rfl⟩
  · rw [block_setCell hblk3]; rfl
  · refine ⟨ownsRow_setCell_other hrow3.1 (Ne.symm hne3) _, fun t ht => (hrow3.2 t ht).kept fun b cur hb => ?_⟩
    rw [Below.heap_setCell _ _ _ _ (fun e => by subst e; rw [hblk3] at hb; simp only [Option.some.injEq, Obj.cells.injEq] at hb; exact absurd hb.2.1 (by decide))]
    exact hb
  · rw [List.length_append]; have := h.len; simp; omega
  · obtain ⟨es, clock, hm⟩ := hseen.at
    have hm3 : w3.heap[mb]? = some (.map es clock) := by
      rw [hg.block mb (by have := heap_lt hm; simp; omega) (fun e => by obtain ⟨cur, hc⟩ := own_cells hrow1 e.symm; rw [hm] at hc; cases hc), Below.heap_alloc _ _ _ (heap_lt hm)]
      exact hm
    have hnm : mb ≠ nb := fun e => by subst e; rw [hblk3] at hm3; cases hm3
    rw [List.map_append]
    exact hseen.block (by rw [Below.heap_setCell _ _ _ _ hnm, hm3, hm])
  · rw [mergeTo_succ _ _ _ hi, ← h.data, ← hs, mergeStep, if_neg (fun hh => hk ((hasKey_iff M2 s).1 hh)), List.map_append]; rfl
  · rcases hat with e | e
    · rcases h.lies with e2 | ⟨b', e2, hb'⟩
      · exact .inl (by rw [← e2, e]; rfl)
      · exact .inr ⟨b', by rw [← e2, e]; rfl, hb'⟩
    · have := h.kb.size
      exact .inr ⟨g3, rfl, by omega⟩

set_option maxHeartbeats 4000000 in
set_option maxRecDepth 100000 in
theorem merge_ok (nb ob l c n k l' c' n' k' : Nat) (p q p' q' : Option Addr) (xs ys : List Int) (M N : List Sg) (W : World)
    (h1 : NoteIn W nb p l c q n k xs M) (h2 : NoteIn W ob p' l' c' q' n' k' ys N) (heq : (Lib.bytesOf xs == Lib.bytesOf ys) = true) (hM : M.length ≤ 1024) (hN : N.length ≤ 1024)
    (kM : ∀ s ∈ M, s.keyed) (kN : ∀ s ∈ N, s.keyed) (hne : nb ≠ ob) (hrow : (Value.slice q n k).ownBlock = none ∨ (Value.slice q n k).ownBlock ≠ (Value.slice q' n' k').ownBlock) :
    Calls Yba.prog 7 #[.pointer (some ⟨nb, 0, none⟩), .pointer (some ⟨ob, 0, none⟩)] W fun e W' => e = .returned .nilIface ∧ ∃ q2 n2 k2 M2,
      NoteIn W' nb p l c q2 n2 k2 xs M2 ∧ NoteIn W' ob p' l' c' q' n' k' ys N ∧ M2.map Sg.data = mergeTo (M.map Sg.data) (N.map Sg.data) N.length ∧ M2.length ≤ 2048 ∧ Kb (mayW nb (.slice q n k)) W W' ∧
      ((Value.slice q2 n2 k2).ownBlock = (Value.slice q n k).ownBlock ∨ ∃ b, (Value.slice q2 n2 k2).ownBlock = some b ∧ W.heap.size ≤ b) := by
  have c1 := h1.cell0
  have c2 := h1.cell1
  have c3 := h2.cell0
  have c4 := h2.cell1
  have hq : ∀ m, Calls Yba.prog 8 #[.slice p l c, .slice p' l' c'] (W.drewN m) fun e w' => e = .returned (.bool true) ∧ w' = W.drewN m := fun m => by
    have h := equal_any p p' l c l' c' xs ys (W.drewN m) h1.txt.1 h2.txt.1 h1.txt.bytes h2.txt.bytes
    rw [heq] at h
    exact h
  have hmm := run_makeMap_hint
  have H1 : Hid (NoteIn W nb p l c q n k xs M) := h1
  have H2 : Hid (NoteIn W ob p' l' c' q' n' k' ys N) := h2
  clear h1 h2 heq
  go_enter Yba.func7, Yba.ntmps7
  go_wp2_with fail
  go_quiet (first | (go_at_call 8; exact Calls.quiet_of_same (hq _)))
  clear hq
  go_wp2_with fail
  have b1 : Below W.heap.size W (W.drewN nq) := belowD (Below.refl _ _) nq
  have d2 : (W.drewN nq).cell? ⟨nb, 1, none⟩ = some (.slice q n k) := c2
  have d4 : (W.drewN nq).cell? ⟨ob, 1, none⟩ = some (.slice q' n' k') := c4
  clear c1 c2 c3 c4
  generalize W.drewN nq = W1 at b1 d2 d4 ⊢
  go_region_held3 (fun w => w.cell? ⟨nb, 1, none⟩ = some (.slice q n k) ∧ w.cell? ⟨ob, 1, none⟩ = some (.slice q' n' k')) (go_keep) (fail)
  have b2 : Below W.heap.size W (W1.alloc (.map #[] 0)).drew := (b1.alloc b1.size _).drew
  have S2 : SeenIs (W1.alloc (.map #[] 0)).drew W1.heap.size 0 [] := (SeenIs.made W1).block rfl
  have hmb : W.heap.size ≤ W1.heap.size := b1.size
  obtain ⟨hn, hn'⟩ : n = M.length ∧ n' = N.length := by
    obtain ⟨_, _, e1⟩ := H1.out.row.form
    obtain ⟨_, _, e2⟩ := H2.out.row.form
    simp only [Value.slice.injEq] at e1 e2
    exact ⟨e1.2.1, e2.2.1⟩
  have ln : n ≤ 1024 := by omega
  have ln' : n' ≤ 1024 := by omega
  have HN : Hid (n = M.length) := hn
  have HN' : Hid (n' = N.length) := hn'
  clear b1 d2 d4 hmm hn hn'
  generalize (W1.alloc (.map #[] 0)).drew = W2 at b2 S2 ⊢
  generalize W1.heap.size = mb at S2 hmb ⊢
  generalize IntKind.i64.wrap ((n : Int) + (n' : Int)) = wnn
  have c2 : W2.cell? ⟨nb, 1, none⟩ = some (.slice q n k) := (H1.out.below b2).cell1
  go_wp2_with fail
  go_loopg [39] n (fun kx s39 wr => ∃ i : Nat, i ≤ n ∧ kx = n - i ∧ s39 = .int .i64 i ∧ Below W.heap.size W wr ∧ Hid (SeenIs wr mb i ((M.take i).map Sg.keyv)))
  case atStart => exact ⟨0, Nat.zero_le _, rfl, rfl, b2, S2⟩
  case round =>
    clear S2 b2 c2
    obtain ⟨i, hi, hkx, rfl, hb, SN⟩ := hrel
    by_cases hlt : i < n
    · have hiM : i < M.length := by have := HN.out; omega
      obtain ⟨g, cap, e, _, a1, a2, a3⟩ := (H1.out.below hb).row.cells hiM
      simp only [Value.slice.injEq] at e
      obtain ⟨rfl, e2, rfl⟩ := e
      clear e2
      obtain ⟨kl, hkl⟩ := keyOf44 _ _ (kM _ (List.getElem_mem hiM)).1 (kM _ (List.getElem_mem hiM)).2
      have hT : (M.take (i + 1)).map Sg.keyv = (M.take i).map Sg.keyv ++ [M[i].keyv] := by rw [List.take_succ_eq_append_getElem hiM, List.map_append]; rfl
      obtain ⟨D, hown, hIs, hat⟩ := SN.out
      have hsz := hb.size
      generalize M[i] = s at a1 a2 a3 hkl hT
      obtain ⟨sn, sk, sp, sl, sc, sb⟩ := s
      simp only at a1 a2 a3 hkl
      have HT : Hid ((M.take (i + 1)).map Sg.keyv = (M.take i).map Sg.keyv ++ [keyV sn sk]) := hT
      have HAT : Hid _ := hat
      have HKL : Hid _ := hkl
      clear hT hat hkl SN
      go_wp2_with (at_mapUpdate; refine wpList_mapUpdate_own _ rfl _ _ _ 42 rfl 44 4 law44 Yba.underlying42 (plainElem Yba.prog 4) mb i D rfl (hown.alloc _) (by unfold maxLen; omega) _ _ kl rfl rfl HKL.out (.lit (.bool true)) [] (plainElem_bool Yba.underlying4 true) ?_; intro w1 hown1 hgrow1)
      go_roundg (n - (i + 1))
      case measure => omega
      case rel => exact ⟨i + 1, by omega, rfl, by go_num, Below.grown (hb.alloc hsz _) hgrow1 (by simp; omega) (fun j hj => by cases hj; exact hmb), by rw [HT.out]; exact SeenIs.put hIs HAT.out HKL.out hown1⟩
    · obtain rfl : i = n := by omega
      have hTM : (M.take i).map Sg.keyv = M.map Sg.keyv := by rw [List.take_of_length_le (by have := HN.out; omega)]
      rw [hTM] at SN
      have ST : St2 W nb mb l c p (.slice q i k) (M.map Sg.data) (N.map Sg.data) i 0 q i k M wr :=
        ⟨(H1.out.below hb).blk, (H1.out.below hb).row, by have := HN.out; omega, SN.out, rfl, Kb.of_below hb, .inl rfl⟩
      have c4 : wr.cell? ⟨ob, 1, none⟩ = some (.slice q' n' k') := (H2.out.below hb).cell1
      clear SN hTM hb hi
      go_wp2_with fail
      go_loopg [55] n' (fun kx s55 wr => ∃ (j : Nat) (q2 : Option Addr) (n2 k2 : Nat) (M2 : List Sg), j ≤ n' ∧ kx = n' - j ∧ s55 = .int .i64 j ∧ St2 W nb mb l c p (.slice q i k) (M.map Sg.data) (N.map Sg.data) i j q2 n2 k2 M2 wr)
      case atStart => exact ⟨0, q, i, k, M, Nat.zero_le _, rfl, rfl, ST⟩
      case round =>
        clear ST c4
        obtain ⟨j, q2, n2, k2, M2, hj, hkx2, rfl, st⟩ := hrel
        by_cases hlt2 : j < n'
        · have hjN : j < N.length := by have := HN'.out; omega
          have NO := H1.out.kb H2.out hne hrow st.kb
          obtain ⟨g, cap, e, _, a1, a2, a3⟩ := NO.row.cells hjN
          simp only [Value.slice.injEq] at e
          obtain ⟨rfl, e2, rfl⟩ := e
          clear e2
          obtain ⟨kl, hkl⟩ := keyOf44 _ _ (kN _ (List.getElem_mem hjN)).1 (kN _ (List.getElem_mem hjN)).2
          have hD : N[j].data = (N.map Sg.data)[j]'(by simpa using hjN) := by simp
          have hok := NO.row.2 _ (List.getElem_mem hjN)
          generalize N[j] = s at a1 a2 a3 hkl hD hok
          obtain ⟨sn, sk, sp, sl, sc, sb⟩ := s
          simp only at a1 a2 a3 hkl
          have HD : Hid _ := hD
          clear hD
          by_cases hin : (Sg.mk sn sk sp sl sc sb).keyv ∈ M2.map Sg.keyv
          · have lk : (Instr.lookup 42 (.map (some mb)) (.agg #[.string sn, .int .u32 sk]) false).run Yba.prog ((wr.alloc (.cells #[.string sn, .int .u32 sk, .slice sp sl sc] 32)).alloc (.cells #[.string sn, .int .u32 sk] 44)) = .ok (.bool true) ((wr.alloc (.cells #[.string sn, .int .u32 sk, .slice sp sl sc] 32)).alloc (.cells #[.string sn, .int .u32 sk] 44)) :=
              (((st.seen.alloc _).alloc _).look hkl).1 hin
            have st' := st.skip (((Below.refl _ _).alloc (Nat.le_refl _) (.cells #[.string sn, .int .u32 sk, .slice sp sl sc] 32)).alloc (by simp) (.cells #[.string sn, .int .u32 sk] 44)) (by simpa using hjN) HD.out hin
            clear hkl hin st NO hok HD
            go_wp2
            go_roundg (n' - (j + 1))
            case measure => omega
            case rel => exact ⟨j + 1, q2, n2, k2, M2, by omega, rfl, by go_num, st'⟩
          · have lk : (Instr.lookup 42 (.map (some mb)) (.agg #[.string sn, .int .u32 sk]) false).run Yba.prog ((wr.alloc (.cells #[.string sn, .int .u32 sk, .slice sp sl sc] 32)).alloc (.cells #[.string sn, .int .u32 sk] 44)) = .ok (.bool false) ((wr.alloc (.cells #[.string sn, .int .u32 sk, .slice sp sl sc] 32)).alloc (.cells #[.string sn, .int .u32 sk] 44)) :=
              (((st.seen.alloc _).alloc _).look hkl).2 hin
            obtain ⟨D, hown, hIs, hat⟩ := st.seen
            have HAT : Hid _ := hat
            have HKL : Hid (keyOf Yba.prog 44 (keyV sn sk) = some kl) := hkl
            have HIN : Hid _ := hin
            clear hat hkl hin
            go_wp2_with (at_mapUpdate; refine wpList_mapUpdate_own _ rfl _ _ _ 42 rfl 44 4 law44 Yba.underlying42 (plainElem Yba.prog 4) mb (i + j) D rfl ((hown.alloc _).alloc _) (by unfold maxLen; omega) _ _ kl rfl rfl HKL.out (.lit (.bool true)) [] (plainElem_bool Yba.underlying4 true) ?_; intro w1 hown1 hgrow1)
            have ck : CellsKept wr w1 := (((CellsKept.refl wr).alloc _).alloc _).mapped (by obtain ⟨es, clock, h, _⟩ := (hown.alloc _).alloc _; exact ⟨es, clock, h⟩) hgrow1
            have ck2 : CellsKept ((wr.alloc (.cells #[.string sn, .int .u32 sk, .slice sp sl sc] 32)).alloc (.cells #[.string sn, .int .u32 sk] 44)) w1 := (CellsKept.refl _).mapped (by obtain ⟨es, clock, h, _⟩ := (hown.alloc _).alloc _; exact ⟨es, clock, h⟩) hgrow1
            have seen1 : SeenIs w1 mb (i + j + 1) (M2.map Sg.keyv ++ [(Sg.mk sn sk sp sl sc sb).keyv]) := SeenIs.put hIs HAT.out HKL.out hown1
            have kb1 : Kb (mayW nb (.slice q i k)) W w1 := Kb.grown (st.kb.step (((Below.refl _ _).alloc (Nat.le_refl _) (.cells #[.string sn, .int .u32 sk, .slice sp sl sc] 32)).alloc (by simp) (.cells #[.string sn, .int .u32 sk] 44))) hgrow1 (fun b hb => by cases hb; exact .inl hmb)
            have sz1 : wr.heap.size + 2 ≤ w1.heap.size := by have := hgrow1.size; simpa using this
            have ok1 : (Sg.mk sn sk sp sl sc sb).ok w1 := hok.kept fun b cur hb => ck _ _ _ _ hb
            have hsb : w1.heap[wr.heap.size]? = some (.cells #[.string sn, .int .u32 sk, .slice sp sl sc] 32) := ck2 _ _ _ _ (by rw [Below.heap_alloc _ _ _ (by simp)]; exact heap_alloc_new wr _)
            have x0 : w1.cell? ⟨wr.heap.size, 0, none⟩ = some (.string sn) := cell_of_block hsb rfl
            have x1 : w1.cell? ⟨wr.heap.size, 1, none⟩ = some (.int .u32 sk) := cell_of_block hsb rfl
            have x2 : w1.cell? ⟨wr.heap.size, 2, none⟩ = some (.slice sp sl sc) := cell_of_block hsb rfl
            have y1 : w1.cell? ⟨nb, 1, none⟩ = some (.slice q2 n2 k2) := cell_of_block (ck _ _ _ _ st.blk) rfl
            have y1' : ∀ o, (w1.alloc o).cell? ⟨nb, 1, none⟩ = some (.slice q2 n2 k2) := fun o => cell_of_block ((ck.alloc o) _ _ _ _ st.blk) rfl
            have row1 := st.row.cellsKept ck
            clear hown hown1 hgrow1 lk a1 a2 a3 NO hok hsb ck2 HAT HKL
            obtain ⟨i0, hi0, hz0, hz1, hz2⟩ := info_parts Yba.info32
            have SZ : Hid (wr.heap.size + 2 ≤ w1.heap.size) := sz1
            generalize wr.heap.size = sgb at x0 x1 x2 sz1 ⊢
            go_wp2_with fail
            go_frame
            have HR1 : Hid (SigRow w1 0 (.slice q2 n2 k2) M2) := row1
            have lM2 : M2.length ≤ 2048 := by have := st.len; omega
            clear row1
            go_region_law (refine step_append_lies _ (by rfl) _ _ _ (by rfl) 0 32 i0 _ 3 48 Yba.underlying26 hi0 hz0 hz1 hz2 rfl (by omega) (.slice q2 n2 k2) M2.length (flat M2) (by rfl) (HR1.out.1.alloc _) ⟨w1.heap.size, 0, none⟩ 1 1 [.string sn, .int .u32 sk, .slice sp sl sc] (by rfl) (by rfl) (World.news_of_block (cs := #[.string sn, .int .u32 sk, .slice sp sl sc]) (t := 32) (fr := (0, 0)) (heap_alloc_new w1 _)) (by simp [Value.oneCell']) (by omega) (by unfold maxLen; omega) (by omega) (by simp) (w1.heap.size + 1) (by simp) ?_; intro g3 cap3 w3 hown3 hgrow3 hat3 hlt3; obtain ⟨st3, cs3, hb3, hx3⟩ := st.push (s := ⟨sn, sk, sp, sl, sc, sb⟩) ck kb1 (Nat.le_trans (Nat.le_add_right _ _) SZ.out) seen1 ok1 (by simpa using hjN) HD.out HIN.out ⟨hgrow3.os, hgrow3.tape, hgrow3.output, hgrow3.size, hgrow3.block⟩ hown3 hat3; have z1 := cell_of_block hb3 hx3; have z2 := free_of_block (i := 1) hb3; clear hown3 hgrow3 hat3 hlt3 hb3 hx3)
            all_goals
              clear ck seen1 kb1 ok1 y1 y1' x0 x1 x2 sz1 SZ HR1 lM2 z1 z2 HD HIN hIs st
              go_wp2
              go_roundg (n' - (j + 1))
              case measure => omega
              case rel => exact ⟨j + 1, some ⟨g3, 0, none⟩, M2.length + 1, cap3, _, by omega, rfl, by go_num, st3⟩
        · obtain rfl : j = n' := by omega
          go_wp2
          go_ret
          refine ⟨rfl, q2, n2, k2, M2, ⟨st.blk, ?_, st.row⟩, H1.out.kb H2.out hne hrow st.kb, ?_, ?_, st.kb, st.lies⟩
          · exact H1.out.txt_kb H1.out st.kb
          · rw [st.data]; have := HN'.out; rw [this]
          · have := st.len; omega
end Go.Proofs.Ybulkakhw
