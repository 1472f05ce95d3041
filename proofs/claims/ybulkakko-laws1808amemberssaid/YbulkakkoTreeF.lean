/- The walks of 'newIndexSets' and of 'zzs1808abuild'. -/
import Derived.Test.YbulkakkoTreeE
import Derived.Lib.Walk
import Derived.Lib.SliceRun
import Derived.WalkLawsBesides
import Derived.Sort.OwnSortedInts
namespace Go.Proofs.Ybulkakko
open Go.RowKit
set_option linter.unusedVariables false
set_option linter.unusedSimpArgs false

theorem Yba.info3 : (Yba.prog.info? 3).map (fun i => (i.zero, i.size, i.bytes)) = some (some (.int .i64 0), 1, 8) := by kernel_rfl
theorem Yba.info4' : (Yba.prog.info? 4).map (fun i => (i.zero, i.size, i.bytes)) = some (some (.bool false), 1, 1) := by kernel_rfl

theorem fr_of {w : World} {b : Nat} {cs : Array Value} {t : TypeId} (h : w.heap[b]? = some (.cells cs t (0, 0))) (i : Nat) : w.frozen? ⟨b, i, none⟩ = false := by
  simp [World.frozen?, h]
theorem set_of {w : World} {b i : Nat} {cs : Array Value} {t : TypeId} {fr : Nat × Nat} (h : w.heap[b]? = some (.cells cs t fr)) (u : Value) : (w.setCell ⟨b, i, none⟩ u).heap[b]? = some (.cells (cs.setIfInBounds i u) t fr) := by
  have hl := lt_of_block h
  simp [World.setCell, Array.getElem?_modify, h]

/-- A row of n cells of type t at block b; the first k are told by f. -/
def RowG (w : World) (t : TypeId) (b k n : Nat) (f : Nat → Value) : Prop :=
  ∃ cur, w.heap[b]? = some (.cells cur t (0, 0)) ∧ cur.size = n ∧ ∀ i, i < k → cur[i]? = some (f i)
theorem RowG.cell {w : World} {t : TypeId} {b k n : Nat} {f : Nat → Value} (h : RowG w t b k n f) {i : Nat} (hi : i < k) : w.cell? ⟨b, i, none⟩ = some (f i) := by
  obtain ⟨cur, h1, h2, h3⟩ := h
  exact cell_of h1 i _ (h3 i hi)
theorem RowG.there {w : World} {t : TypeId} {b k n : Nat} {f : Nat → Value} (h : RowG w t b k n f) {i : Nat} (hi : i < n) : (∃ x, w.cell? ⟨b, i, none⟩ = some x) ∧ w.frozen? ⟨b, i, none⟩ = false := by
  obtain ⟨cur, h1, h2, h3⟩ := h
  exact ⟨⟨_, cell_of h1 i _ (Array.getElem?_eq_getElem (by omega))⟩, fr_of h1 i⟩
theorem RowG.set {w : World} {t : TypeId} {b k n : Nat} {f : Nat → Value} (h : RowG w t b k n f) (hk : k < n) (u : Value) : RowG (w.setCell ⟨b, k, none⟩ u) t b (k + 1) n (fun i => if i = k then u else f i) := by
  obtain ⟨cur, h1, h2, h3⟩ := h
  refine ⟨_, set_of h1 u, by simp [h2], fun i hi => ?_⟩
  by_cases hik : i = k
  · subst hik
    rw [Array.getElem?_setIfInBounds_self_of_lt (by omega)]; simp
  · rw [Array.getElem?_setIfInBounds_ne (by omega), h3 i (by omega)]; simp [hik]
theorem RowG.reset {w : World} {t : TypeId} {b k n j : Nat} {f : Nat → Value} (h : RowG w t b k n f) (hj : j < n) (u : Value) : RowG (w.setCell ⟨b, j, none⟩ u) t b k n (fun i => if i = j then u else f i) := by
  obtain ⟨cur, h1, h2, h3⟩ := h
  refine ⟨_, set_of h1 u, by simp [h2], fun i hi => ?_⟩
  by_cases hik : i = j
  · subst hik
    rw [Array.getElem?_setIfInBounds_self_of_lt (by omega)]; simp
  · rw [Array.getElem?_setIfInBounds_ne (by omega), h3 i (by omega)]; simp [hik]
theorem RowG.cong {w : World} {t : TypeId} {b k n : Nat} {f g : Nat → Value} (h : RowG w t b k n f) (hfg : ∀ i, i < k → f i = g i) : RowG w t b k n g := by
  obtain ⟨cur, h1, h2, h3⟩ := h
  exact ⟨cur, h1, h2, fun i hi => by rw [h3 i hi, hfg i hi]⟩
theorem RowG.lt {w : World} {t : TypeId} {b k n : Nat} {f : Nat → Value} (h : RowG w t b k n f) : b < w.heap.size := by
  obtain ⟨cur, h1, h2, h3⟩ := h
  exact lt_of_block h1
theorem RowG.below {w w' : World} {t : TypeId} {b k n : Nat} {f : Nat → Value} (h : RowG w t b k n f) (hb : Below w.heap.size w w') : RowG w' t b k n f := by
  obtain ⟨cur, h1, h2⟩ := h
  exact ⟨cur, bBelow hb h1, h2⟩
theorem RowG.but {w w' : World} {t : TypeId} {b c k n : Nat} {f : Nat → Value} (h : RowG w t b k n f) (hg : w.grownBy w' (some c)) (hne : b ≠ c) : RowG w' t b k n f := by
  obtain ⟨cur, h1, h2⟩ := h
  exact ⟨cur, by rw [hg.block b (lt_of_block h1) (fun e => hne (by cases e; rfl))]; exact h1, h2⟩
theorem RowG.fr {w w' : World} {m : Nat} {t : TypeId} {b k n : Nat} {f : Nat → Value} (h : RowG w t b k n f) (hf : Fr m w w') : RowG w' t b k n f := by
  obtain ⟨cur, h1, h2⟩ := h
  exact ⟨cur, hf.block h1, h2⟩
theorem RowG.made {w w1 : World} {t : TypeId} {base n : Nat} {xs : List Value} {f : Nat → Value} (h : w1.ownsRow base t 1 (.slice (some ⟨w.heap.size, 0, none⟩) n n) n xs) : RowG w1 t w.heap.size 0 n f := by
  rcases h.2 with ⟨h, _⟩ | ⟨g, cap, cur, h, h1, h2, h3, h4, h5, _⟩
  · simp at h
  · simp only [Value.slice.injEq, Option.some.injEq, Addr.mk.injEq] at h
    obtain ⟨⟨rfl, _⟩, _, rfl⟩ := h
    exact ⟨cur, h2, by omega, fun i hi => by omega⟩
theorem RowG.ints {w : World} {t : TypeId} {b : Nat} {zs : List Int} (h : RowG w t b zs.length zs.length (fun i => .int .i64 (zs.getD i 0))) : Ints w b 0 zs := fun j hj => by
  rw [Nat.zero_add]
  exact h.cell hj

/-! the frame 'all but block c' -/
theorem gT {a b d : World} {c : Nat} (h : a.grownBy b (some c)) (k : b.grownBy d (some c)) : a.grownBy d (some c) :=
  ⟨k.os.trans h.os, k.tape.trans h.tape, k.output.trans h.output, Nat.le_trans h.size k.size, fun i hi hne => (k.block i (Nat.lt_of_lt_of_le hi h.size) hne).trans (h.block i hi hne)⟩
theorem gB {a b : World} {c : Nat} (h : Below a.heap.size a b) : a.grownBy b (some c) := ⟨h.os, h.tape, h.output, h.size, fun i hi _ => h.block i hi⟩
theorem gS {a b : World} {c : Nat} (h : a.grownBy b (some c)) (i : Nat) (u : Value) : a.grownBy (b.setCell ⟨c, i, none⟩ u) (some c) :=
  gT h ⟨rfl, rfl, rfl, by simp [World.setCell], fun k hk hne => Below.heap_setCell _ _ _ _ (fun e => hne (by rw [e]))⟩
theorem gK {w w' : World} {c A : Nat} {o : Obj} (hg : w.grownBy w' (some c)) (h : w.heap[A]? = some o) (hne : A ≠ c) : w'.heap[A]? = some o := by
  rw [hg.block A (lt_of_block h) (fun e => hne (by cases e; rfl))]; exact h
theorem In.but {w w' : World} {c k n : Nat} {f : Nat → Value} (hr : RowG w 4 c k n f) (hg : w.grownBy w' (some c)) : ∀ {t : T}, In w t → In w' t
  | .nil, _ => trivial
  | .node b x l r n, h => by
    refine ⟨gK hg h.1 ?_, In.but hr hg h.2.1, In.but hr hg h.2.2⟩
    rintro rfl
    obtain ⟨cur, h1, -⟩ := hr
    have := h.1
    rw [h1] at this
    simp at this
theorem MInv.but {w w' : World} {m N c k n : Nat} {f : Nat → Value} (hr : RowG w 4 c k n f) (hg : w.grownBy w' (some c)) (h : MInv w m N) : MInv w' m N := by
  obtain ⟨es, cl, h1, h2, h3⟩ := h
  refine ⟨es, cl, gK hg h1 ?_, h2, fun e he => ?_⟩
  · rintro rfl
    obtain ⟨cur, h4, -⟩ := hr
    rw [h1] at h4
    cases h4
  · obtain ⟨s, t, v, k1, k2, i1, i2, i3, k3⟩ := h3 e he
    exact ⟨s, t, v, k1, k2, i1.but hr hg, i2.but hr hg, i3.but hr hg, k3⟩

/-- 'newIndexSets(n)'. -/
def Sets (w : World) (sb h m : Nat) : Prop := ∃ a b, w.heap[sb]? = some (.cells #[.int .i64 h, .map a, .map b, .map (some m)] 30 (0, 0))
theorem Sets.c0 {w : World} {sb h m : Nat} (k : Sets w sb h m) : w.cell? ⟨sb, 0, none⟩ = some (.int .i64 h) := by
  obtain ⟨a, b, k⟩ := k; exact cell_of k 0 _ rfl
theorem Sets.c3 {w : World} {sb h m : Nat} (k : Sets w sb h m) : w.cell? ⟨sb, 3, none⟩ = some (.map (some m)) := by
  obtain ⟨a, b, k⟩ := k; exact cell_of k 3 _ rfl
theorem Sets.below {w w' : World} {sb h m : Nat} (k : Sets w sb h m) (hb : Below w.heap.size w w') : Sets w' sb h m := by
  obtain ⟨a, b, k⟩ := k; exact ⟨a, b, bBelow hb k⟩
theorem Sets.fr {w w' : World} {sb h m m' : Nat} (k : Sets w sb h m) (hf : Fr m' w w') : Sets w' sb h m := by
  obtain ⟨a, b, k⟩ := k; exact ⟨a, b, hf.block k⟩
theorem Sets.but {w w' : World} {sb h m c kk n : Nat} {f : Nat → Value} (hr : RowG w 4 c kk n f) (hg : w.grownBy w' (some c)) (k : Sets w sb h m) : Sets w' sb h m := by
  obtain ⟨a, b, k⟩ := k
  refine ⟨a, b, gK hg k ?_⟩
  rintro rfl
  obtain ⟨cur, h1, -⟩ := hr
  rw [h1] at k
  simp at k

def NewOk (n : Nat) (w : World) (e : Ending) (w' : World) : Prop := ∃ h sb m, e = .returned (.pointer (some ⟨sb, 0, none⟩)) ∧ h ≤ 5 ∧ n ≤ 64 * 2 ^ h ∧ Sets w' sb h m ∧ MInv w' m 0 ∧ Below w.heap.size w w' ∧ w.heap.size ≤ m

theorem shl64 (k : Nat) (hk : k ≤ 5) : wrap64 (64 * 2 ^ k) = ((64 * 2 ^ k : Nat) : Int) := by
  have e : ((64 : Int) * 2 ^ k) = ((64 * 2 ^ k : Nat) : Int) := by push_cast; rfl
  have hp : 2 ^ k ≤ 2 ^ 5 := Nat.pow_le_pow_right (by decide) hk
  rw [e]
  exact IntWalk.wrap64_in _ (by omega)

theorem run_make27 (w : World) : (Instr.makeMap 27 none).run Yba.prog w = .ok (.map (some w.heap.size)) (w.alloc (.map #[] 0)) := by
  simp [Instr.makeMap, run_underlying Yba.underlying27, asInt, asIntOf, Result.andThen]
theorem run_make28 (w : World) : (Instr.makeMap 28 none).run Yba.prog w = .ok (.map (some w.heap.size)) (w.alloc (.map #[] 0)) := by
  simp [Instr.makeMap, run_underlying Yba.underlying28, asInt, asIntOf, Result.andThen]

set_option maxRecDepth 100000 in
set_option maxHeartbeats 4000000 in
theorem new_any (n : Nat) (w : World) (hn : n ≤ 2048) :
    Calls Yba.prog 8 #[.int .i64 n] w fun e w' => NewOk n w e w' := by
  have m27 := run_make27
  have m28 := run_make28
  go_enter Yba.func8, Yba.ntmps8
  go_wp2
  go_loop [3] (fun s3 => ∃ (k : Nat), k ≤ 5 ∧ s3 = .int .i64 k) (fun s3 => 6 - (intOf s3).toNat)
  case atStart => exact ⟨0, Nat.zero_le _, rfl⟩
  case round =>
    obtain ⟨k, hk, rfl⟩ := hrel
    have hs := shl64 k hk
    have hp : 2 ^ 5 ≤ 2 ^ k ∨ k < 5 := by
      rcases Nat.lt_or_ge k 5 with h | h
      · exact .inr h
      · exact .inl (Nat.pow_le_pow_right (by decide) h)
    have HP : Hid (2 ^ 5 ≤ 2 ^ k ∨ k < 5) := hp
    clear hp
    generalize hP : 64 * 2 ^ k = P at hs
    have HQ : Hid (64 * 2 ^ k = P) := hP
    clear hP
    by_cases hlt : P < n
    · have hd : decide ((P : Int) < (n : Int)) = true := decide_eq_true (by omega)
      go_wp2
      go_round
      case measure =>
        simp only [intOf]
        have := HP.out; have := HQ.out
        omega
      case rel =>
        have := HP.out; have := HQ.out
        exact ⟨k + 1, by omega, by go_num⟩
    · have hd : decide ((P : Int) < (n : Int)) = false := decide_eq_false (by omega)
      go_wp2
      go_ret
      refine ⟨k, _, _, rfl, hk, by have := HQ.out; omega, ⟨_, _, box_at ?_ _⟩, ⟨#[], 0, bAlloc (box_at ?_ _) _, by simp, fun e he => by simp at he⟩, kA (kA (kA (kA (Below.refl _ _) _) _) _) _, ?_⟩
      all_goals (try simp only [alloc_size])
      all_goals (try omega)

/-- The raw numbers, as they came in. -/
def Raw (w : World) (a : Option Addr) (len : Nat) (f : Nat → Int) : Prop := ∀ i, i < len → ∃ ad, a = some ad ∧ w.cell? (ad.add i) = some (.int .u16 (f i)) ∧ 0 ≤ f i ∧ f i < 65536
theorem Raw.below {w w' : World} {a : Option Addr} {len : Nat} {f : Nat → Int} (h : Raw w a len f) (hb : Below w.heap.size w w') : Raw w' a len f := fun i hi => by
  obtain ⟨ad, h1, h2, h3⟩ := h i hi
  exact ⟨ad, h1, kOld hb h2, h3⟩

/-- slices.Sort at []int. -/
theorem sort_any (g : Nat) (zs : List Int) (w : World) (hr : RowG w 3 g zs.length zs.length (fun i => .int .i64 (zs.getD i 0))) (hsz : zs.length ≤ 4096) :
    Calls Yba.prog 17 #[.slice (some ⟨g, 0, none⟩) zs.length zs.length] w fun e w' => ∃ ss : List Int, e = .returned (.tuple #[]) ∧ ss.length = zs.length ∧ ss.Pairwise (· ≤ ·) ∧ (∀ k, k ∈ ss ↔ k ∈ zs) ∧ w.grownBy w' (some g) ∧ RowG w' 3 g ss.length ss.length (fun i => .int .i64 (ss.getD i 0)) := by
  obtain ⟨cur, h1, h2, h3⟩ := hr
  have htake : cur.toList.take zs.length = zs.map (Value.int .i64) := by
    apply List.ext_getElem?
    intro j
    by_cases hj : j < zs.length
    · rw [List.getElem?_take_of_lt hj, Array.getElem?_toList, h3 j hj]
      simp [List.getD, hj]
    · rw [List.getElem?_take_eq_none (by omega), List.getElem?_eq_none (by simp; omega)]
  have hH := holds_of_blockI h1 htake
  have hc := Any.slices_Sort_int Yba.lays189 g 0 zs.length zs w hH (lt_of_block h1) (by omega)
  rw [f189] at hc
  refine hc.mono ?_
  rintro e w' ⟨rfl, n, os, rfl⟩
  have hlen : (zs.mergeSort fun x y => decide (x ≤ y)).length = zs.length := List.length_mergeSort zs
  refine ⟨zs.mergeSort fun x y => decide (x ≤ y), rfl, hlen, ?_, fun k => List.mem_mergeSort, grownBy_sortedI _, _, heap_sortedI _ h1, by simp [Sort.putCells, h2, hlen], fun i hi => ?_⟩
  · have := List.pairwise_mergeSort (le := fun x y : Int => decide (x ≤ y)) (fun a b c h1 h2 => by simp at *; omega) (fun a b => by simp; omega) zs
    exact this.imp (fun h => by simpa using h)
  · generalize (zs.mergeSort fun x y => decide (x ≤ y)) = ss at *
    have := take_putCellsI cur ss (by omega)
    have h4 := congrArg (fun l => l[i]?) this
    rw [List.getElem?_take_of_lt hi, Array.getElem?_toList] at h4
    rw [h4]
    simp [List.getD, List.getElem?_eq_getElem hi]

set_option maxRecDepth 100000 in
set_option maxHeartbeats 8000000 in
theorem build_any (h sb m ib n len cap M : Nat) (a : Option Addr) (f : Nat → Int) (fb : Nat → Bool) (t : T) (w : World) (hh : h ≤ 5) (hM : M = 64 * 2 ^ h) (hn1 : 1 ≤ n) (hn : n ≤ M) (hlen : len ≤ 1024) (hS : Sets w sb h m) (ht : In w t) (hin : RowG w 4 ib M M (fun i => .bool (fb i))) (ha : Raw w a len f) :
    Calls Yba.prog 9 #[.pointer (some ⟨sb, 0, none⟩), .pointer t.addr, .slice a len cap, .int .i64 n, .slice (some ⟨ib, 0, none⟩) M M] w fun e w' =>
      ∃ (v : T) (zs : List Int), e = .returned (.pointer v.addr) ∧ In w' v ∧ w.grownBy w' (some ib) ∧ AddR h 0 zs t v ∧ Rng h 0 zs ∧ RowG w' 4 ib M M (fun i => .bool (fb i || decide ((i : Int) ∈ zs))) := by
  obtain ⟨i3, hi3, hz3, hs3, hb3⟩ := info_parts Yba.info3
  have hp : 2 ^ h ≤ 2 ^ 5 := Nat.pow_le_pow_right (by decide) hh
  have hM2 : M ≤ 2048 := by omega
  have HA : Hid (Raw w a len f) := ha
  have HS : Hid (Sets w sb h m) := hS
  have HT : Hid (In w t) := ht
  have HIN : Hid (RowG w 4 ib M M (fun i => .bool (fb i))) := hin
  have HM : Hid (M = 64 * 2 ^ h) := hM
  have hib : ib < w.heap.size := hin.lt
  clear ha hS ht hin hM hp
  go_enter Yba.func9, Yba.ntmps9
  go_wp2_with (at_make; refine wpList_make_full _ rfl _ _ 112 rfl w.heap.size 3 i3 _ 1 Yba.underlying112 hi3 hz3 hs3 .i64 .i64 _ _ len rfl rfl rfl rfl (by rw [hb3]; omega) (by unfold maxLen; omega) (Nat.le_refl _) ?_; intro w1 hown1 hgrow1)
  have P1 : RowG w1 3 w.heap.size 0 len (fun i => .int .i64 (f i % n)) := RowG.made hown1
  have B1 : Below w.heap.size w w1 := (Below.refl _ _).grown hgrow1 (Nat.le_refl _) (fun k hk => by cases hk)
  clear hown1 hgrow1
  go_loopg [12, 13, 21] len (fun kx s12 s13 s21 wr => ∃ (k : Nat), k ≤ len ∧ kx = len - k ∧ s21 = .int .i64 k ∧ RowG wr 3 w.heap.size k len (fun i => .int .i64 (f i % n)) ∧ Below w.heap.size w wr)
  case atStart => exact ⟨0, Nat.zero_le _, rfl, rfl, P1, B1⟩
  case round =>
    clear P1 B1
    obtain ⟨k, hk, hkx, rfl, P, B⟩ := hrel
    by_cases hlt : k < len
    · obtain ⟨ad, rfl, c1, r1, r2⟩ := HA.out k hlt
      have c1 := kOld B c1
      obtain ⟨⟨x, hx⟩, hfz⟩ := P.there hlt
      have hki : (k : Int) < (len : Int) := by omega
      have hmod : Int.tmod (f k) (n : Int) = f k % (n : Int) := Int.tmod_eq_emod_of_nonneg r1
      have hn0 : ¬ (n : Int) = 0 := by omega
      have q1 := Int.emod_nonneg (f k) (b := (n : Int)) (by omega)
      have q2 := Int.emod_lt_of_pos (f k) (b := (n : Int)) (by omega)
      have HP : Hid (RowG wr 3 w.heap.size k len (fun i => .int .i64 (f i % n))) := P
      have HB : Hid (Below w.heap.size w wr) := B
      generalize hz : f k % (n : Int) = z at hmod q1 q2
      generalize hy : f k = y at hmod r1 r2 c1
      have HZ : Hid (f k % (n : Int) = z) := hz
      clear P B hz hy
      go_wp2
      go_roundg (len - (k + 1))
      case measure => omega
      case rel => exact ⟨k + 1, by omega, rfl, by go_num, (HP.out.set hlt _).cong (fun i hi => by by_cases e : i = k <;> simp [e, HZ.out]), HB.out.setCell (by simp) _⟩
    obtain rfl : len = k := by omega
    clear hlt hk hkx hi3 hz3 hs3 hb3
    generalize wr = wa at *
    clear wr
    obtain ⟨zs, hzs⟩ : ∃ zs : List Int, zs = (List.range len).map (fun i => f i % (n : Int)) := ⟨_, rfl⟩
    have hzl : zs.length = len := by rw [hzs]; simp
    have hzm : ∀ k ∈ zs, 0 ≤ k ∧ k < (n : Int) := by
      intro k hk
      rw [hzs] at hk
      obtain ⟨i, hi, rfl⟩ := List.mem_map.1 hk
      exact ⟨Int.emod_nonneg _ (by omega), Int.emod_lt_of_pos _ (by omega)⟩
    have hrow : RowG wa 3 w.heap.size zs.length zs.length (fun i => .int .i64 (zs.getD i 0)) := by
      rw [hzl]
      refine P.cong fun i hi => ?_
      rw [hzs]
      simp [List.getD, hi]
    have hsort := sort_any w.heap.size zs wa hrow (by omega)
    have HSO : Hid (Calls Yba.prog 17 #[.slice (some ⟨w.heap.size, 0, none⟩) zs.length zs.length] wa fun e w' => ∃ ss : List Int, e = .returned (.tuple #[]) ∧ ss.length = zs.length ∧ ss.Pairwise (· ≤ ·) ∧ (∀ k, k ∈ ss ↔ k ∈ zs) ∧ wa.grownBy w' (some w.heap.size) ∧ RowG w' 3 w.heap.size ss.length ss.length (fun i => .int .i64 (ss.getD i 0))) := hsort
    have HZM : Hid (∀ k ∈ zs, 0 ≤ k ∧ k < (n : Int)) := hzm
    clear hsort hzm hrow P hzs HA
    subst hzl
    go_wp2_with fail
    refine HSO.out.mono ?_
    rintro e wb ⟨ss, rfl, hsl, hsp, hsm, hsg, hsr⟩
    have B2 : Below w.heap.size w wb := B.grown hsg B.size (fun k hk => by cases hk; exact Nat.le_refl _)
    have HSP : Hid (ss.Pairwise (· ≤ ·)) := hsp
    have HSM : Hid (∀ k ∈ ss, 0 ≤ k ∧ k < (n : Int)) := fun k hk => HZM.out k ((hsm k).1 hk)
    have hin2 : RowG wb 4 ib M M (fun i => .bool (fb i || decide ((i : Int) ∈ ss.take 0))) := (HIN.out.below B2).cong (fun i hi => by simp)
    rw [← hsl]
    rw [← hsl] at hlen
    clear HSO HZM hsp hsm hsg B hsl
    have hbne : w.heap.size ≠ ib := by omega
    have g0 : w.grownBy wb (some ib) := gB B2
    have B2' : Below w.heap.size w wb := B2
    obtain ⟨kb, hkb⟩ : ∃ kb, kb = w.heap.size := ⟨_, rfl⟩
    rw [← hkb] at hsr hbne
    rw [← hkb]
    clear hkb B2
    have HB2 : Hid (Below w.heap.size w wb) := B2'
    have HG0 : Hid (w.grownBy wb (some ib)) := g0
    clear B2' g0
    go_wp2
    go_loopg [15, 38] ss.length (fun kx s15 s38 wr => ∃ (k : Nat), k ≤ ss.length ∧ kx = ss.length - k ∧ s38 = .int .i64 k ∧ RowG wr 4 ib M M (fun i => .bool (fb i || decide ((i : Int) ∈ ss.take k))) ∧ wb.grownBy wr (some ib))
    case atStart => exact ⟨0, Nat.zero_le _, rfl, rfl, hin2, gB (Below.refl _ _)⟩
    case round =>
      obtain ⟨k, hk, hkx, rfl, R, G⟩ := hrel
      have hsr2 := hsr.but G hbne
      by_cases hlt : k < ss.length
      · have c1 := hsr2.cell hlt
        obtain ⟨q1, q2⟩ := HSM.out _ (show ss.getD k 0 ∈ ss by simp [List.getD, hlt])
        obtain ⟨d, hd⟩ : ∃ d : Nat, ss.getD k 0 = (d : Int) := ⟨(ss.getD k 0).toNat, by omega⟩
        rw [hd] at c1 q2
        have hdM : d < M := by omega
        have hdI : (d : Int) < (M : Int) := by omega
        obtain ⟨⟨x, hx⟩, hfz⟩ := R.there hdM
        have hki : (k : Int) < (ss.length : Int) := by omega
        have HD : Hid (ss.getD k 0 = (d : Int)) := hd
        have HR : Hid (RowG wr 4 ib M M (fun i => .bool (fb i || decide ((i : Int) ∈ ss.take k)))) := R
        have HG : Hid (wb.grownBy wr (some ib)) := G
        clear R G hd q1 q2 hsr2 hin2
        go_wp2
        go_roundg (ss.length - (k + 1))
        case measure => omega
        case rel =>
          refine ⟨k + 1, by omega, rfl, by go_num, (HR.out.reset hdM _).cong (fun i hi => ?_), gS HG.out _ _⟩
          have ht : ss.take (k + 1) = ss.take k ++ [(d : Int)] := by
            rw [List.take_add_one, ← HD.out]
            simp [List.getD, List.getElem?_eq_getElem hlt]
          rw [ht]
          by_cases e : i = d
          · simp [e]
          · have e' : ¬ (i : Int) = (d : Int) := by omega
            simp [e, e']
      · obtain rfl : k = ss.length := by omega
        rw [List.take_length] at R
        have hrng : ∀ k ∈ ss, 0 ≤ k ∧ k < ((64 * 2 ^ h : Nat) : Int) := fun k hk => by
          have := HSM.out k hk
          have := HM.out
          omega
        have hS2 : Sets wr sb h m := (HS.out.below HB2.out).but (HIN.out.below HB2.out) G
        have hT2 : In wr t := (HT.out.below HB2.out).but (HIN.out.below HB2.out) G
        have hadd := add_any sb h t kb ss.length ss wr hh hS2.c0 hT2 hsr2.ints (Nat.le_refl _) (by omega) HSP.out hrng
        have HADD : Hid (Calls Yba.prog 18 #[.pointer (some ⟨sb, 0, none⟩), .pointer t.addr, .slice (some ⟨kb, 0, none⟩) ss.length ss.length] wr fun e w' =>
          ∃ v : T, e = .returned (.pointer v.addr) ∧ In w' v ∧ Below wr.heap.size wr w' ∧ AddR h 0 ss t v) := hadd
        have HR : Hid (RowG wr 4 ib M M (fun i => .bool (fb i || decide ((i : Int) ∈ ss)))) := R
        have HG : Hid (wb.grownBy wr (some ib)) := G
        have HRN : Hid (Rng h 0 ss) := ⟨HSP.out, fun k hk => by have := hrng k hk; simpa using this⟩
        clear hadd R G hrng hS2 hT2 hsr2 hin2
        go_wp2_with fail
        refine HADD.out.mono ?_
        rintro e wz ⟨v, rfl, i1, b1, r1⟩
        have H : Hid (In wz v ∧ Below wr.heap.size wr wz ∧ AddR h 0 ss t v) := ⟨i1, b1, r1⟩
        clear i1 b1 r1
        go_wp2
        go_ret
        exact ⟨v, ss, rfl, H.out.1, gT HG0.out (gT HG.out (gB H.out.2.1)), H.out.2.2, HRN.out, HR.out.below H.out.2.1⟩
end Go.Proofs.Ybulkakko
