/-
  zzs1801bdb: the database whose snapshots see the given numbers in ascending order.
-/
import Derived.Test.YbulkakguWalkB
namespace Go.Proofs.Ybulkakgu
open Go.RowKit

/-! ### The world's facts, outside the walk -/
theorem cell_of_block {w : World} {b i : Nat} {cs : Array Value} {t : TypeId} {fr : Nat × Nat} {v : Value} (h : w.heap[b]? = some (.cells cs t fr)) (hi : cs[i]? = some v) : w.cell? ⟨b, i, none⟩ = some v := by
  simp [World.cell?, h, hi]
theorem free_of_block {w : World} {b i : Nat} {cs : Array Value} {t : TypeId} (h : w.heap[b]? = some (.cells cs t (0, 0))) : w.frozen? ⟨b, i, none⟩ = false := by
  simp [World.frozen?, h]
theorem block_setCell {w : World} {b i : Nat} {cs : Array Value} {t : TypeId} {fr : Nat × Nat} (h : w.heap[b]? = some (.cells cs t fr)) (u : Value) : (w.setCell ⟨b, i, none⟩ u).heap[b]? = some (.cells (cs.setIfInBounds i u) t fr) := by
  simp [World.setCell, Array.getElem?_modify, h]
theorem heap_lt {w : World} {b : Nat} {o : Obj} (h : w.heap[b]? = some o) : b < w.heap.size := (Array.getElem?_eq_some_iff.1 h).1

/-- The database in the making: k snapshots are laid. -/
structure DbInv (w0 : World) (B0 DB g n : Nat) (zs : List Int) (k : Nat) (v : Value) (wr : World) : Prop where
  db : ∃ m, wr.heap[DB]? = some (.cells #[m, .slice none 0 0, .int .u64 0, .int .u64 0, .int .u64 0, v, .slice none 0 0] 38 (0, 0))
  own : ∃ C : Nat → Nat, wr.ownsRow B0 39 1 v k ((List.range k).map fun i => .pointer (some ⟨C i, 0, none⟩)) ∧
    ∀ i, i < k → wr.heap[C i]? = some (.cells #[.pointer none, .int .u64 (zs.getD i 0), .int .u64 0, .slice none 0 0] 42 (0, 0))
  src : ∃ cur : Array Value, wr.heap[g]? = some (.cells cur 23 (0, 0)) ∧ ∀ i, i < n → cur[i]? = some (.int .u64 (zs.getD i 0))
  bel : Below B0 w0 wr
  base : B0 ≤ DB

/-- One round: two new blocks (the snapshot, the one-element slice), an append onto v, the field's store. -/
theorem DbInv.step {w0 wr w1 : World} {B0 DB g n k : Nat} {zs : List Int} {v v' : Value} {C : Nat → Nat} (h : DbInv w0 B0 DB g n zs k v wr) (hB0 : B0 ≤ wr.heap.size)
    (hC : ∀ i, i < k → wr.heap[C i]? = some (.cells #[.pointer none, .int .u64 (zs.getD i 0), .int .u64 0, .slice none 0 0] 42 (0, 0)))
    (hv : wr.ownsRow B0 39 1 v k ((List.range k).map fun i => .pointer (some ⟨C i, 0, none⟩)))
    (hown : w1.ownsRow B0 39 1 v' (k + 1) (((List.range k).map fun i => .pointer (some ⟨C i, 0, none⟩)) ++ [.pointer (some ⟨wr.heap.size, 0, none⟩)]))
    (hg : ((wr.alloc (.cells #[.pointer none, .int .u64 (zs.getD k 0), .int .u64 0, .slice none 0 0] 42)).alloc (.cells #[.pointer (some ⟨wr.heap.size, 0, none⟩)] 39)).grownBy w1 v.ownBlock) :
    DbInv w0 B0 DB g n zs (k + 1) v' (w1.setCell ⟨DB, 5, none⟩ v') ∧ ∃ cs, w1.heap[DB]? = some (.cells cs 38 (0, 0)) ∧ cs[5]? = some v := by
  obtain ⟨⟨m, hdb⟩, _, ⟨cur, hsrc, hcur⟩, hbel, hbase⟩ := h
  -- the written row is no block of another type
  have hrow : ∀ (b : Nat) (cs : Array Value) (t : TypeId) (fr : Nat × Nat), wr.heap[b]? = some (.cells cs t fr) → t ≠ 39 → some b ≠ v.ownBlock := by
    intro b cs t fr hb ht e
    rcases hv.2 with ⟨rfl, _⟩ | ⟨gg, cap, cu, rfl, _, hgg, _⟩
    · simp [Value.ownBlock] at e
    · simp only [Value.ownBlock, Option.some.injEq] at e
      subst e
      rw [hb] at hgg
      simp only [Option.some.injEq, Obj.cells.injEq] at hgg
      exact ht hgg.2.1
  have hrow' : ∀ (b : Nat) (cs : Array Value) (t : TypeId) (fr : Nat × Nat), w1.heap[b]? = some (.cells cs t fr) → t ≠ 39 → v'.ownBlock ≠ some b := by
    intro b cs t fr hb ht e
    rcases hown.2 with ⟨rfl, _⟩ | ⟨gg, cap, cu, rfl, _, hgg, _⟩
    · simp [Value.ownBlock] at e
    · simp only [Value.ownBlock, Option.some.injEq] at e
      subst e
      rw [hb] at hgg
      simp only [Option.some.injEq, Obj.cells.injEq] at hgg
      exact ht hgg.2.1
  have keep : ∀ (b : Nat) (cs : Array Value) (t : TypeId) (fr : Nat × Nat), wr.heap[b]? = some (.cells cs t fr) → t ≠ 39 → w1.heap[b]? = some (.cells cs t fr) := by
    intro b cs t fr hb ht
    have hlt := heap_lt hb
    rw [hg.block b (by simp; omega) (hrow b cs t fr hb ht), Below.heap_alloc _ _ _ (by simp; omega), Below.heap_alloc _ _ _ hlt]
    exact hb
  have hnew : w1.heap[wr.heap.size]? = some (.cells #[.pointer none, .int .u64 (zs.getD k 0), .int .u64 0, .slice none 0 0] 42 (0, 0)) := by
    have hne : some wr.heap.size ≠ v.ownBlock := by
      intro e
      rcases hv.2 with ⟨rfl, _⟩ | ⟨gg, cap, cu, rfl, _, hgg, _⟩
      · simp [Value.ownBlock] at e
      · simp only [Value.ownBlock, Option.some.injEq] at e
        have := heap_lt hgg
        omega
    rw [hg.block _ (by simp; omega) hne, Below.heap_alloc _ _ _ (by simp)]
    show (wr.heap.push _)[wr.heap.size]? = _
    simp
  have hdb1 := keep _ _ _ _ hdb (by decide)
  have other : ∀ b, b ≠ DB → (w1.setCell ⟨DB, 5, none⟩ v').heap[b]? = w1.heap[b]? := fun b hb => Below.heap_setCell _ _ _ _ hb
  have neDB : ∀ (b : Nat) (cs : Array Value) (t : TypeId) (fr : Nat × Nat), w1.heap[b]? = some (.cells cs t fr) → t ≠ 38 → b ≠ DB := by
    intro b cs t fr hb ht e
    subst e
    rw [hb] at hdb1
    simp only [Option.some.injEq, Obj.cells.injEq] at hdb1
    exact ht hdb1.2.1
  refine ⟨?_, _, hdb1, rfl⟩
  refine ⟨⟨m, ?_⟩, ⟨fun i => if i < k then C i else wr.heap.size, ?_, ?_⟩, ⟨cur, ?_, hcur⟩, ?_, hbase⟩
  · rw [block_setCell hdb1]
    rfl
  · have e : ((List.range (k + 1)).map fun i => Value.pointer (some ⟨if i < k then C i else wr.heap.size, 0, none⟩)) = ((List.range k).map fun i => .pointer (some ⟨C i, 0, none⟩)) ++ [.pointer (some ⟨wr.heap.size, 0, none⟩)] := by
      rw [List.range_succ, List.map_append]
      congr 1
      · apply List.map_congr_left
        intro i hi
        rw [List.mem_range] at hi
        rw [if_pos hi]
      · simp
    rw [e]
    exact ownsRow_setCell_other hown (hrow' _ _ _ _ hdb1 (by decide)) _
  · intro i hi
    by_cases hik : i < k
    · simp only [if_pos hik]
      have := keep _ _ _ _ (hC i hik) (by decide)
      rw [other _ (neDB _ _ _ _ this (by decide))]
      exact this
    · simp only [if_neg hik]
      obtain rfl : i = k := by omega
      rw [other _ (neDB _ _ _ _ hnew (by decide))]
      exact hnew
  · have := keep _ _ _ _ hsrc (by decide)
    rw [other _ (neDB _ _ _ _ this (by decide))]
    exact this
  · refine Below.setCell ?_ (by exact hbase) _
    refine Below.grown ((hbel.alloc hB0 _).alloc (by simp; omega) _) hg (by simp; omega) ?_
    intro j hj
    rcases hv.2 with ⟨rfl, _⟩ | ⟨gg, cap, cu, rfl, hgg, _⟩
    · simp [Value.ownBlock] at hj
    · simp only [Value.ownBlock, Option.some.injEq] at hj
      omega

/-- slices.Sort over an owned row. -/
theorem sort_block (base g cap n : Nat) (cur : Array Value) (zs : List Int) (w : World) (hl : zs.length = n) (hn : n ≤ 1024) (hcap : n ≤ cur.size) (hb : w.heap[g]? = some (.cells cur 23 (0, 0))) (hbase : base ≤ g)
    (h4 : cur.toList.take n = zs.map (Value.int .u64)) :
    Calls Yba.prog 9 #[.slice (some ⟨g, 0, none⟩) n cap] w fun e w' =>
      e = .returned (.tuple #[]) ∧ (∃ cur2 : Array Value, w'.heap[g]? = some (.cells cur2 23 (0, 0)) ∧ ∀ i, i < n → cur2[i]? = some (.int .u64 ((zs.mergeSort fun x y => decide (x ≤ y)).getD i 0))) ∧ Below base w w' ∧ w.heap.size ≤ w'.heap.size := by
  subst hl
  have hlt := heap_lt hb
  have hH : Go.Sort.Holds (Value.int .u64) w g 0 zs.toArray := by
    intro j hj
    have hj' : j < zs.length := by simpa using hj
    refine ⟨?_, by simp [World.frozen?, hb]⟩
    have h1 : (cur.toList.take zs.length)[j]? = (zs.map (Value.int .u64))[j]? := by rw [h4]
    rw [List.getElem?_take_of_lt hj'] at h1
    simp only [World.cell?, hb, Nat.zero_add]
    simp only [Option.isSome_none, Bool.false_eq_true, if_false]
    rw [← Array.getElem?_toList, h1]
    simp [hj']
  refine (USort.u_slices_Sort g 0 cap zs w hH hlt (by omega)).mono ?_
  rintro e w' ⟨rfl, m, os, rfl⟩
  refine ⟨rfl, ⟨Go.Sort.putCells (Value.int .u64) 0 (zs.mergeSort fun x y => decide (x ≤ y)).toArray cur, ?_, ?_⟩, ?_, by simp⟩
  · rw [Go.Sort.heap_grow_old _ _ (by simpa using hlt)]
    simp [Go.Sort.putRow, Go.Sort.mapBlock, Go.Sort.ahead, Array.getElem?_modify, hb, Go.Sort.onCells]
  · intro i hi
    have hi2 : i < (zs.mergeSort fun x y => decide (x ≤ y)).length := by simpa using hi
    simp [Go.Sort.putCells, hi, show i < cur.size by omega]
  · refine ⟨rfl, rfl, rfl, by simp, fun k hk => ?_⟩
    rw [Go.Sort.heap_grow_old _ _ (by simp; omega)]
    have : g ≠ k := by omega
    simp [Go.Sort.putRow, Go.Sort.mapBlock, Go.Sort.ahead, Array.getElem?_modify, this]

set_option maxHeartbeats 1000000 in
set_option maxRecDepth 100000 in
/-- The loop's walk, from a source row that holds zs. -/
theorem db_some (ad : Addr) (n c : Nat) (zs : List Int) (w : World) (hn : n ≤ 1024) (hl : zs.length = n)
    (hc : ∀ i, i < n → w.cell? (ad.add i) = some (.int .u64 (zs.getD i 0))) :
    Calls Yba.prog 5 #[.slice (some ad) n c] w fun e w' =>
      ∃ (DB g : Nat) (v : Value), e = .returned (.pointer (some ⟨DB, 0, none⟩)) ∧ DbInv w w.heap.size DB g n (zs.mergeSort fun x y => decide (x ≤ y)) n v w' := by
  have hcl := clone_some ad n c (zs.map (Value.int .u64)) w (by simp [hl]) hn (by
    intro j u hj
    rw [List.getElem?_map] at hj
    cases hz : zs[j]? with
    | none => simp [hz] at hj
    | some x =>
      have hjl : j < zs.length := (List.getElem?_eq_some_iff.1 hz).1
      rw [hc j (by omega)]
      simp [hz] at hj ⊢
      exact hj) (by
    intro u hu
    rw [List.mem_map] at hu
    obtain ⟨x, _, rfl⟩ := hu
    rfl)
  clear hc
  generalize hts : (zs.mergeSort fun x y => decide (x ≤ y)) = ts
  have HTS : Hid ((zs.mergeSort fun x y => decide (x ≤ y)) = ts) := hts
  clear hts
  go_enter Yba.func5, Yba.ntmps5
  go_wp2_with fail
  refine hcl.mono ?_
  rintro e w1 ⟨v', rfl, hown, hnn, hbel⟩
  rcases hown.2 with ⟨hnil, _⟩ | ⟨g, cap, cur, rfl, hbase, hb, h1, h2, h3, h4⟩
  · exact absurd hnil hnn
  have hsz0 := hbel.size
  have hso := sort_block w.heap.size g cap n cur zs w1 hl hn (by omega) hb hbase (by simpa using h4)
  clear hown hnn hb h1 h2 h3 h4 hcl
  rw [HTS.out] at hso
  go_wp2_with fail
  refine hso.mono ?_
  rintro e w2 ⟨rfl, ⟨cur2, hb2, hcur2⟩, hbel2, hsz2⟩
  have HB : Hid (w2.heap[g]? = some (.cells cur2 23 (0, 0))) := hb2
  have HC : Hid (∀ i, i < n → cur2[i]? = some (.int .u64 (ts.getD i 0))) := hcur2
  clear hb2 hcur2 hso
  go_wp2_with fail
  refine (new_any w2).mono ?_
  rintro e w3 ⟨rfl, o, rfl⟩
  obtain ⟨w3, hw3⟩ : ∃ w3, w3 = (w2.alloc o).alloc (.cells #[.map (some w2.heap.size), .slice none 0 0, .int .u64 0, .int .u64 0, .int .u64 0, .slice none 0 0, .slice none 0 0] 38) := ⟨_, rfl⟩
  rw [← hw3]
  have INV : DbInv w w.heap.size (w2.heap.size + 1) g n ts 0 (.slice none 0 0) w3 := by
    subst hw3
    have hlt := heap_lt HB.out
    refine ⟨⟨.map (some w2.heap.size), ?_⟩, ⟨fun _ => 0, ?_, fun i hi => absurd hi (Nat.not_lt_zero _)⟩, ⟨cur2, ?_, HC.out⟩, ?_, by omega⟩
    · have h := heap_alloc_new (w2.alloc o) (.cells #[.map (some w2.heap.size), .slice none 0 0, .int .u64 0, .int .u64 0, .int .u64 0, .slice none 0 0, .slice none 0 0] 38)
      rw [show (w2.alloc o).heap.size = w2.heap.size + 1 by simp] at h
      exact h
    · exact ⟨rfl, .inl ⟨rfl, rfl⟩⟩
    · rw [Below.heap_alloc _ _ _ (by simp; omega), Below.heap_alloc _ _ _ hlt]
      exact HB.out
    · exact (((hbel.trans hbel2).alloc (by omega) _).alloc (by simp; omega) _)
  have hsz3 : w.heap.size ≤ w3.heap.size := INV.bel.size
  generalize w2.heap.size + 1 = DB at INV ⊢
  clear hw3 HB HC hbel2 hsz2
  obtain ⟨i0, hi, hz0, hz1, hz2⟩ := info_parts Yba.info39
  go_wp2_with fail
  go_loopg [14] n (fun kx s14 wr => ∃ k : Nat, k ≤ n ∧ kx = n - k ∧ s14 = .int .i64 k ∧ ∃ v, DbInv w w.heap.size DB g n ts k v wr)
  case atStart => exact ⟨0, Nat.zero_le _, rfl, rfl, _, INV⟩
  case round =>
    obtain ⟨k, hk, hkx, rfl, v, inv⟩ := hrel
    have hszr : w.heap.size ≤ wr.heap.size := inv.bel.size
    obtain ⟨m, hdb⟩ := inv.db
    obtain ⟨C, hown, hC⟩ := inv.own
    obtain ⟨cur3, hsrc, hcur⟩ := inv.src
    by_cases hlt : k < n
    · have cS := cell_of_block hsrc (hcur k hlt)
      have cD := cell_of_block hdb (i := 5) (v := v) rfl
      have hDlt := heap_lt hdb
      have HDB : Hid (wr.heap[DB]? = some (.cells #[m, .slice none 0 0, .int .u64 0, .int .u64 0, .int .u64 0, v, .slice none 0 0] 38 (0, 0))) := hdb
      clear hdb hsrc hcur INV
      go_wp2_with (at_builtin; refine wpList_append_own _ rfl _ _ 33 rfl w.heap.size 39 i0 (.pointer none) 1 8 Yba.underlying33 hi hz0 hz1 hz2 rfl (by decide) _ _ _ rfl ((hown.alloc _).alloc _) ⟨wr.heap.size + 1, 0, none⟩ 1 1 [.pointer (some ⟨wr.heap.size, 0, none⟩)] rfl rfl ?c1 ?c2 ?c3 ?c4 ?c5 ?_)
      case c1 =>
        intro j u hj
        match j, hj with
        | 0, hj => simp at hj; subst hj; simp [Addr.add]
      case c2 => intro u hu; simp at hu; subst hu; rfl
      case c3 => unfold maxLen; omega
      case c4 => omega
      case c5 => simp; omega
      intro v' w4 hown' hgrow _
      obtain ⟨inv', cs4, hb4, hx4⟩ := inv.step hszr hC hown hown' hgrow
      have c4 := cell_of_block hb4 hx4
      have f4 := free_of_block (i := 5) hb4
      rcases hown'.2 with ⟨hv, hk0⟩ | ⟨g', cap', cu', rfl, _⟩
      · omega
      clear hown' hgrow hown hC inv cD cS hb4
      go_wp2
      go_roundg (n - (k + 1))
      case measure => omega
      case rel => exact ⟨k + 1, by omega, rfl, by go_num, _, inv'⟩
    · obtain rfl : k = n := by omega
      go_wp2
      go_ret
      exact ⟨DB, g, v, rfl, inv⟩

/-- What the law wants of the database. -/
def DbOut (w : World) (zs : List Int) (e : Ending) (w' : World) : Prop :=
  ∃ (DB : Nat) (v : Value), e = .returned (.pointer (some ⟨DB, 0, none⟩)) ∧ w'.cell? ⟨DB, 5, none⟩ = some v ∧ Snaps w' v (zs.mergeSort fun x y => decide (x ≤ y)) ∧ Below w.heap.size w w'

theorem DbInv.out {w w' : World} {DB g n : Nat} {zs : List Int} {v : Value} (h : DbInv w w.heap.size DB g n zs n v w') (hl : zs.length = n) : w'.cell? ⟨DB, 5, none⟩ = some v ∧ Snaps w' v zs ∧ Below w.heap.size w w' := by
  obtain ⟨⟨m, hdb⟩, ⟨C, hown, hC⟩, _, hbel, _⟩ := h
  refine ⟨cell_of_block hdb rfl, ?_, hbel⟩
  rcases hown.2 with ⟨rfl, h0⟩ | ⟨g', cap', cu', rfl, _, hb, h1, h2, h3, h4⟩
  · exact .inl ⟨rfl, List.length_eq_zero_iff.1 (by omega)⟩
  · refine .inr ⟨g', cap', C, by rw [hl], fun i hi => ?_, fun i hi => cell_of_block (hC i (by omega)) rfl⟩
    refine cell_of_block hb ?_
    have h5 : (cu'.toList.take (n * 1))[i]? = ((List.range n).map fun i => Value.pointer (some ⟨C i, 0, none⟩))[i]? := by rw [h4]
    rw [List.getElem?_take_of_lt (by omega)] at h5
    rw [← Array.getElem?_toList, h5]
    simp [show i < n by omega]

set_option maxHeartbeats 1000000 in
set_option maxRecDepth 100000 in
theorem db_nil (w : World) (n c : Nat) : Calls Yba.prog 5 #[.slice none n c] w (DbOut w []) := by
  go_enter Yba.func5, Yba.ntmps5
  go_wp2_with (first
    | (go_at_call 8; refine (clone_nil _ _ _).mono ?_; rintro e w' ⟨rfl, rfl⟩)
    | (go_at_call 9; refine (USort.u_Sort_nil none 0 _).mono ?_; rintro e w' ⟨rfl, rfl⟩)
    | (go_at_call 10; refine (new_any _).mono ?_; rintro e w' ⟨rfl, o, rfl⟩))
  refine wp_loop_rounds 1 ?_
  rw [rounds_succ]
  go_wp2
  go_ret
  refine ⟨_, .slice none 0 0, rfl, ?_, .inl ⟨rfl, by simp⟩, ((Below.refl _ _).alloc (Nat.le_refl _) _).alloc (by simp) _⟩
  have h := heap_alloc_new (w'.alloc o) (.cells #[.map (some w'.heap.size), .slice none 0 0, .int .u64 0, .int .u64 0, .int .u64 0, .slice none 0 0, .slice none 0 0] 38)
  rw [show (w'.alloc o).heap.size = w'.heap.size + 1 by simp] at h
  exact cell_of_block h rfl

theorem db_row (ad : Addr) (n c : Nat) (zs : List Int) (w : World) (hn : n ≤ 1024) (hl : zs.length = n)
    (hc : ∀ i, i < n → w.cell? (ad.add i) = some (.int .u64 (zs.getD i 0))) :
    Calls Yba.prog 5 #[.slice (some ad) n c] w (DbOut w zs) := by
  refine (db_some ad n c zs w hn hl hc).mono ?_
  rintro e w' ⟨DB, g, v, rfl, inv⟩
  obtain ⟨h1, h2, h3⟩ := inv.out (by simpa using hl)
  exact ⟨DB, v, rfl, h1, h2, h3⟩

/-! ### The plain law -/
theorem sorted_getD (zs : List Int) (i j : Nat) (hij : i ≤ j) (hj : j < (zs.mergeSort fun x y => decide (x ≤ y)).length) :
    (zs.mergeSort fun x y => decide (x ≤ y)).getD i 0 ≤ (zs.mergeSort fun x y => decide (x ≤ y)).getD j 0 := by
  have hp := List.pairwise_mergeSort (le := fun x y : Int => decide (x ≤ y)) (fun a b c h1 h2 => by simp at *; omega) (fun a b => by simp; omega) zs
  rw [getD_lt _ _ hj, getD_lt _ _ (by omega)]
  rcases Nat.lt_or_ge i j with h | h
  · have := List.pairwise_iff_getElem.1 hp i j (by omega) hj h
    simpa using this
  · obtain rfl : i = j := by omega
    exact Int.le_refl _

theorem any_sorted (zs : List Int) (p : Int → Bool) : (zs.mergeSort fun x y => decide (x ≤ y)).any p = zs.any p :=
  (List.mergeSort_perm zs _).any_eq
end Go.Proofs.Ybulkakgu
