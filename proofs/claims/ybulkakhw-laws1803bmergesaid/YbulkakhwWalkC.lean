/-
  zzs1803bsigs: the lines that came in, copied.
-/
import Derived.Test.YbulkakhwWalkB
namespace Go.Proofs.Ybulkakhw
open Go.RowKit
attribute [local go_sem ↓] Go.wp_at_zero Go.wp_at_succ

/-- bytes.Clone, whatever the slice. -/
theorem clone_any (p : Option Addr) (n c : Nat) (xs : List Int) (w : World) (hl : xs.length = n) (hn : n ≤ 140737488355328) (h : Lib.BytesIn w p n xs) :
    Calls Yba.prog 5 #[.slice p n c] w fun e w' => ∃ p' c', e = .returned (.slice p' n c') ∧ (∀ nm ky, (Sg.mk nm ky p' n c' xs).ok w') ∧ Below w.heap.size w w' := by
  cases p with
  | none =>
    have h0 : n = 0 := by
      rcases Nat.eq_zero_or_pos n with h0 | h0
      · exact h0
      · obtain ⟨b, o, e, _⟩ := h h0; cases e
    subst h0
    refine (clone_nil w 0 c).mono ?_
    rintro e w' ⟨rfl, rfl⟩
    exact ⟨none, 0, rfl, fun _ _ => ⟨hl, fun hh => absurd hh (Nat.lt_irrefl _)⟩, Below.refl _ _⟩
  | some x =>
    refine (clone_some x n c (xs.map (Value.int .u8)) w (by simp [hl]) hn ?_ ?_).mono ?_
    · intro j u hj
      rw [List.getElem?_map] at hj
      cases hz : xs[j]? with
      | none => simp [hz] at hj
      | some z =>
        have hjl : j < xs.length := (List.getElem?_eq_some_iff.1 hz).1
        obtain ⟨b, o, e, hc⟩ := h (by omega)
        cases e
        rw [Addr.add_lit, hc j (by omega)]
        simp [hz] at hj ⊢
        exact hj
    · intro u hu
      rw [List.mem_map] at hu
      obtain ⟨z, _, rfl⟩ := hu
      rfl
    · rintro e w' ⟨v', rfl, hown, hnn, hbel⟩
      rcases hown.2 with ⟨hnil, _⟩ | ⟨g, cap, cur, rfl, hbase, hb, h1, h2, h3, h4⟩
      · exact absurd hnil hnn
      · refine ⟨some ⟨g, 0, none⟩, cap, rfl, fun _ _ => ⟨hl, fun _ => ⟨g, 0, cur, rfl, hb, fun i hi => ?_⟩⟩, hbel⟩
        have h5 : (cur.toList.take (n * 1))[i]? = (xs.map (Value.int .u8))[i]? := by rw [h4]
        rw [List.getElem?_take_of_lt (by exact (Nat.mul_one n).symm ▸ hi)] at h5
        rw [Nat.zero_add, ← Array.getElem?_toList, h5]
        have : i < xs.length := by rw [hl]; exact hi
        simp [this]

/-- The lines that came in, as they lie. -/
def Sg.arg (w : World) (s : Sg) : Prop := s.bs.length = s.len ∧ Lib.BytesIn w s.p s.len s.bs ∧ s.len ≤ 140737488351232 ∧ 0 ≤ s.key ∧ s.key < 4294967296
def ArgRow (w : World) (a : Option Addr) (len cap : Nat) (L : List Sg) : Prop :=
  L.length = len ∧ ((a = none ∧ len = 0) ∨ ∃ x, a = some x ∧ len ≤ cap ∧ ∀ i (h : i < L.length),
    w.cell? (x.add (i * 3)) = some (.string L[i].name) ∧ w.cell? (x.add (i * 3 + 1)) = some (.int .u32 L[i].key) ∧ w.cell? (x.add (i * 3 + 2)) = some (.slice L[i].p L[i].len L[i].cap) ∧ L[i].arg w)

/-- What zzs1803bsigs makes of a line. -/
def Sg.made (s : Sg) : ByteArray × Int × List Int := (s.name, s.key.tmod 4, s.bs)

theorem below_lt {w : World} {a : Addr} {v : Value} (h : w.cell? a = some v) : a.block < w.heap.size := by
  rcases Nat.lt_or_ge a.block w.heap.size with h' | h'
  · exact h'
  · simp [World.cell?, Array.getElem?_eq_none h'] at h

theorem bytesIn_below {w w' : World} {p : Option Addr} {n : Nat} {xs : List Int} (h : Lib.BytesIn w p n xs) (hb : Below w.heap.size w w') : Lib.BytesIn w' p n xs := by
  intro hn
  obtain ⟨b, o, e, hc⟩ := h hn
  refine ⟨b, o, e, fun i hi => ?_⟩
  have := hc i hi
  rw [hb.cell (below_lt this)]
  exact this

theorem ArgRow.below {w w' : World} {a : Option Addr} {len cap : Nat} {L : List Sg} (h : ArgRow w a len cap L) (hb : Below w.heap.size w w') : ArgRow w' a len cap L := by
  refine ⟨h.1, ?_⟩
  rcases h.2 with h0 | ⟨x, hx, hlc, hc⟩
  · exact .inl h0
  · refine .inr ⟨x, hx, hlc, fun i hi => ?_⟩
    obtain ⟨c1, c2, c3, c4, c5, c6⟩ := hc i hi
    exact ⟨by rw [hb.cell (below_lt c1)]; exact c1, by rw [hb.cell (below_lt c2)]; exact c2, by rw [hb.cell (below_lt c3)]; exact c3, c4, bytesIn_below c5 hb, c6⟩

/-- One line more on a row. -/
theorem SigRow.push {w w1 w2 : World} {base : Nat} {v v' : Value} {M : List Sg} {s : Sg} (h : SigRow w base v M) (hb1 : Below w.heap.size w w1) (hs : s.ok w1)
    (hg : (w1.alloc s.obj).grownBy w2 v.ownBlock) (hown : w2.ownsRow base 32 3 v' (M.length + 1) (flat M ++ s.cells)) : SigRow w2 base v' (M ++ [s]) := by
  have hv : ∀ (b : Nat) (cur : Array Value), w1.heap[b]? = some (.cells cur 5 (0, 0)) → some b ≠ v.ownBlock := by
    intro b cur hb e
    rcases h.1.2 with ⟨rfl, _⟩ | ⟨gg, cap, cu, rfl, _, hgg, _⟩
    · simp [Value.ownBlock] at e
    · simp only [Value.ownBlock, Option.some.injEq] at e
      subst e
      rw [hb1.block b (heap_lt hgg), hgg] at hb
      simp only [Option.some.injEq, Obj.cells.injEq] at hb
      exact absurd hb.2.1 (by decide)
  have keep : ∀ (b : Nat) (cur : Array Value), w1.heap[b]? = some (.cells cur 5 (0, 0)) → w2.heap[b]? = some (.cells cur 5 (0, 0)) := by
    intro b cur hb
    rw [hg.block b (by have := heap_lt hb; simp; omega) (hv b cur hb), Below.heap_alloc _ _ _ (heap_lt hb)]
    exact hb
  refine ⟨?_, fun t ht => ?_⟩
  · rw [flat_append, flat_one, List.length_append]
    exact hown
  · rcases List.mem_append.1 ht with ht | ht
    · exact ((h.2 t ht).below hb1 (Nat.le_refl _)).kept keep
    · rw [List.mem_singleton] at ht
      subst ht
      exact hs.kept keep

set_option maxHeartbeats 400000 in
theorem sigs_nil (w : World) (n c : Nat) : Calls Yba.prog 6 #[.slice none n c] w fun e w' => e = .returned (.slice none 0 0) ∧ w' = w := by
  have q23 : ∀ (w : World) (a : Option Addr) (n c n' c' : Nat), (binOp .eql 23 (.slice a n c) (.slice none n' c')).run Yba.prog w = .ok (.bool a.isNone) w := fun w a n c n' c' => Lib.run_eql_slice_nil w _ _ a n c n' c' Yba.underlying23
  go_enter Yba.func6, Yba.ntmps6
  go_wp2
  go_ret
  exact ⟨rfl, rfl⟩

set_option maxHeartbeats 2000000 in
set_option maxRecDepth 100000 in
theorem sigs_some (b off n c : Nat) (L : List Sg) (w : World) (hl : L.length = n) (hn : n ≤ 1024) (hpos : 0 < n)
    (hc : ∀ i (h : i < L.length), w.cell? ⟨b, off + i * 3, none⟩ = some (.string L[i].name) ∧ w.cell? ⟨b, off + (i * 3 + 1), none⟩ = some (.int .u32 L[i].key) ∧ w.cell? ⟨b, off + (i * 3 + 2), none⟩ = some (.slice L[i].p L[i].len L[i].cap) ∧ L[i].arg w) :
    Calls Yba.prog 6 #[.slice (some ⟨b, off, none⟩) n c] w fun e w' => ∃ v M, e = .returned v ∧ SigRow w' w.heap.size v M ∧ M.map Sg.data = L.map Sg.made ∧ Below w.heap.size w w' := by
  have q23 : ∀ (w : World) (a : Option Addr) (n c n' c' : Nat), (binOp .eql 23 (.slice a n c) (.slice none n' c')).run Yba.prog w = .ok (.bool a.isNone) w := fun w a n c n' c' => Lib.run_eql_slice_nil w _ _ a n c n' c' Yba.underlying23
  obtain ⟨i0, hi, hz0, hz1, hz2⟩ := info_parts Yba.info32
  have hblk : b < w.heap.size := below_lt (hc 0 (by omega)).1
  have HC : Hid _ := hc
  have HL : Hid (L.length = n) := hl
  clear hc hl
  go_enter Yba.func6, Yba.ntmps6
  go_wp2_with (at_make; refine wpList_make_own _ rfl _ _ 26 rfl w.heap.size 32 i0 _ 3 Yba.underlying26 hi hz0 hz1 .i64 .i64 _ n rfl rfl rfl (by rw [hz2]; omega) (by unfold maxLen; omega) (Nat.le_refl _) ?_; intro w1 hown1 hgrow1)
  have R1 : SigRow w1 w.heap.size (.slice (some ⟨w.heap.size, 0, none⟩) 0 n) [] := ⟨hown1, fun s hs => by cases hs⟩
  have hbel1 : Below w.heap.size w w1 := (Below.refl _ _).grown hgrow1 (Nat.le_refl _) (fun k hk => by cases hk)
  clear hown1 hgrow1
  go_wp2_with fail
  go_loopg [3, 12] n (fun kx s3 s12 wr => ∃ (k : Nat) (M : List Sg) (v : Value), k ≤ n ∧ kx = n - k ∧ s12 = .int .i64 k ∧ v = s3 ∧ M.length = k ∧ SigRow wr w.heap.size v M ∧ M.map Sg.data = (L.take k).map Sg.made ∧ Below w.heap.size w wr)
  case atStart => exact ⟨0, [], _, Nat.zero_le _, rfl, rfl, rfl, rfl, R1, rfl, hbel1⟩
  case round =>
    obtain ⟨k, M, v, hk, hkx, rfl, rfl, hMl, R, hD, hbel⟩ := hrel
    by_cases hlt : k < n
    · have hsz := hbel.size
      have hkL : k < L.length := by rw [HL.out]; exact hlt
      obtain ⟨c1, c2, c3, c4, c5, c6, c7, c8⟩ := HC.out k hkL
      rw [← hbel.cell (p := ⟨b, off + k * 3, none⟩) hblk] at c1
      rw [← hbel.cell (p := ⟨b, off + (k * 3 + 1), none⟩) hblk] at c2
      rw [← hbel.cell (p := ⟨b, off + (k * 3 + 2), none⟩) hblk] at c3
      have hD' : (L.take (k + 1)).map Sg.made = M.map Sg.data ++ [L[k].made] := by rw [List.take_succ_eq_append_getElem hkL, List.map_append, ← hD]; rfl
      have c5' := bytesIn_below c5 hbel
      generalize L[k] = s at c1 c2 c3 c4 c5' c6 c7 c8 hD'
      clear c5
      obtain ⟨sn, sk, sp, sl, sc, sb⟩ := s
      simp only at c1 c2 c3 c4 c5' c6 c7 c8
      have hcl := clone_any sp sl sc sb (wr.drewN 1) c4 (by omega) c5'
      have HD : Hid ((L.take (k + 1)).map Sg.made = M.map Sg.data ++ [Sg.made ⟨sn, sk, sp, sl, sc, sb⟩]) := hD'
      have HR : Hid (SigRow wr w.heap.size v M) := R
      clear hD hD' R c4 c5'
      have hki : (0 : Int) ≤ (k : Int) := by omega
      have hkN : (k : Int) < (n : Int) := by omega
      have hcl' : Calls Yba.prog 5 #[.slice sp sl sc] (wr.drewN 1) fun e w' => ∃ p' c', e = .returned (.slice p' sl c') ∧ Hid (∀ nm ky, (Sg.mk nm ky p' sl c' sb).ok w') ∧ Below wr.heap.size wr w' ∧
          w'.cell? ⟨b, off + k * 3, none⟩ = some (.string sn) ∧ w'.cell? ⟨b, off + k * 3 + 1, none⟩ = some (.int .u32 sk) ∧ w'.cell? ⟨b, off + k * 3 + 2, none⟩ = some (.slice sp sl sc) ∧ wr.heap.size ≤ w'.heap.size := by
        refine hcl.mono ?_
        rintro e w' ⟨p', c', rfl, hok, hb⟩
        have hb' : Below wr.heap.size wr w' := ⟨hb.os, hb.tape, hb.output, hb.size, hb.block⟩
        refine ⟨p', c', rfl, hok, hb', ?_, ?_, ?_, hb'.size⟩
        · rw [hb'.cell (by exact Nat.lt_of_lt_of_le hblk hsz)]; exact c1
        · rw [hb'.cell (by exact Nat.lt_of_lt_of_le hblk hsz)]; exact c2
        · rw [hb'.cell (by exact Nat.lt_of_lt_of_le hblk hsz)]; exact c3
      have c2' : wr.cell? ⟨b, off + k * 3 + 1, none⟩ = some (.int .u32 sk) := c2
      have c3' : wr.cell? ⟨b, off + k * 3 + 2, none⟩ = some (.slice sp sl sc) := c3
      clear hcl HC c2 c3 hbel1 R1
      have HNE : Hid (some b ≠ v.ownBlock) := by
        intro e
        rcases HR.out.1.2 with ⟨rfl, _⟩ | ⟨gg, cap, cu, rfl, hgg, _⟩
        · simp [Value.ownBlock] at e
        · simp only [Value.ownBlock, Option.some.injEq] at e
          omega
      go_wp2_with fail
      go_region_held3 (fun w' => w'.cell? ⟨b, off + k * 3, none⟩ = some (.string sn) ∧ w'.cell? ⟨b, off + k * 3 + 1, none⟩ = some (.int .u32 sk) ∧ w'.cell? ⟨b, off + k * 3 + 2, none⟩ = some (.slice sp sl sc))
        (first
          | go_keep
          | (go_split_ands
             refine ⟨?_, ?_, ?_⟩ <;> (rw [hgrow3.cell_far _ (by simp; omega) (HNE.out)]; go_keep)))
        (first
          | (go_at_call 5; refine hcl'.mono ?_; rintro e w2 ⟨p', c', rfl, HOK, hbel2, d1, d2, d3, hsz2⟩)
          | (refine step_append_lies _ (by rfl) _ _ _ (by rfl) w.heap.size 32 i0 _ 3 48 Yba.underlying26 hi hz0 hz1 hz2 rfl (by omega) v M.length (flat M) (by rfl) ((HR.out.below hbel2).1.alloc _) ⟨w2.heap.size, 0, none⟩ 1 1 [.string sn, .int .u32 (sk.tmod 4), .slice p' sl c'] (by rfl) (by rfl) (World.news_of_block (cs := #[.string sn, .int .u32 (sk.tmod 4), .slice p' sl c']) (t := 32) (fr := (0, 0)) (heap_alloc_new w2 _)) (by simp [Value.oneCell']) (by omega) (by unfold maxLen; omega) (by omega) (by simp; omega) (w2.heap.size + 1) (by simp) ?_; intro g' cap' w3 hown3 hgrow3 hat3 hlt3))
      have R' := HR.out.push hbel2 (HOK.out sn (sk.tmod 4)) hgrow3 hown3
      have hbel3 : Below w.heap.size w w3 := by
        refine Below.grown ((hbel.trans (hbel2.mono hsz)).alloc (by omega) _) hgrow3 (by simp; omega) ?_
        intro j hj
        rcases HR.out.1.2 with ⟨rfl, _⟩ | ⟨gg, cap, cu, rfl, hgg, _⟩
        · simp [Value.ownBlock] at hj
        · simp only [Value.ownBlock, Option.some.injEq] at hj
          omega
      rw [hMl] at R'
      clear hown3 hgrow3 hat3 hlt3 d1 d2 d3 hbel2 HOK HNE hcl' c1 c2' c3' HR
      go_wp2
      go_roundg (n - (k + 1))
      case measure => omega
      case rel => exact ⟨k + 1, M ++ [⟨sn, sk.tmod 4, p', sl, c', sb⟩], _, by omega, rfl, by go_num, rfl, by simp [hMl], R', by rw [HD.out, List.map_append]; rfl, hbel3⟩
    · obtain rfl : k = n := by omega
      go_wp2
      go_ret
      exact ⟨v, M, rfl, R, by rw [hD, List.take_of_length_le (by rw [HL.out]; omega)], hbel⟩

/-- An empty slice that is not nil. -/
theorem sigs_empty (x : Addr) (c : Nat) (w : World) : Calls Yba.prog 6 #[.slice (some x) 0 c] w fun e w' => ∃ v, e = .returned v ∧ SigRow w' w.heap.size v [] ∧ Below w.heap.size w w' := by
  have q23 : ∀ (w : World) (a : Option Addr) (n c n' c' : Nat), (binOp .eql 23 (.slice a n c) (.slice none n' c')).run Yba.prog w = .ok (.bool a.isNone) w := fun w a n c n' c' => Lib.run_eql_slice_nil w _ _ a n c n' c' Yba.underlying23
  obtain ⟨i0, hi, hz0, hz1, hz2⟩ := info_parts Yba.info32
  go_enter Yba.func6, Yba.ntmps6
  go_wp2_with (at_make; refine wpList_make_own _ rfl _ _ 26 rfl w.heap.size 32 i0 _ 3 Yba.underlying26 hi hz0 hz1 .i64 .i64 _ 0 rfl rfl rfl (by omega) (by unfold maxLen; omega) (Nat.le_refl _) ?_; intro w1 hown1 hgrow1)
  have R1 : SigRow w1 w.heap.size (.slice (some ⟨w.heap.size, 0, none⟩) 0 0) [] := ⟨hown1, fun s hs => by cases hs⟩
  have hbel1 : Below w.heap.size w w1 := (Below.refl _ _).grown hgrow1 (Nat.le_refl _) (fun k hk => by cases hk)
  clear hown1 hgrow1
  go_wp2_with fail
  refine wp_loop_rounds 1 ?_
  rw [rounds_succ]
  go_wp2
  go_ret
  exact ⟨_, rfl, R1, hbel1⟩

/-- zzs1803bsigs, whatever came in (at most 1024 lines). -/
theorem sigs_any (a : Option Addr) (n c : Nat) (L : List Sg) (w : World) (hn : n ≤ 1024) (h : ArgRow w a n c L) :
    Calls Yba.prog 6 #[.slice a n c] w fun e w' => ∃ v M, e = .returned v ∧ SigRow w' w.heap.size v M ∧ M.map Sg.data = L.map Sg.made ∧ Below w.heap.size w w' := by
  obtain ⟨hl, h⟩ := h
  rcases h with ⟨rfl, rfl⟩ | ⟨x, rfl, hlc, hc⟩
  · have : L = [] := List.length_eq_zero_iff.1 hl
    subst this
    refine (sigs_nil w 0 c).mono ?_
    rintro e w' ⟨rfl, rfl⟩
    exact ⟨_, [], rfl, ⟨⟨rfl, .inl ⟨rfl, rfl⟩⟩, fun s hs => by cases hs⟩, rfl, Below.refl _ _⟩
  · rcases Nat.eq_zero_or_pos n with h0 | hpos
    · subst h0
      have : L = [] := List.length_eq_zero_iff.1 hl
      subst this
      refine (sigs_empty x c w).mono ?_
      rintro e w' ⟨v, rfl, R, hb⟩
      exact ⟨v, [], rfl, R, rfl, hb⟩
    · obtain ⟨b, off, sp⟩ := x
      have hs : sp = none := by
        have := (hc 0 (by omega)).1
        simpa [Addr.add] using World.cell?_spot this
      subst hs
      refine sigs_some b off n c L w hl hn hpos fun i hi => ?_
      have := hc i hi
      simpa only [Addr.add_lit] using this
end Go.Proofs.Ybulkakhw
