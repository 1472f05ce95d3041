/-
  The walk of LawS1803BMerge.
-/
import Derived.Test.YbulkakhwMerge
namespace Go.Proofs.Ybulkakhw
open Go.RowKit Go.Maps
attribute [local go_sem ↓] Go.wp_at_zero Go.wp_at_succ

theorem SigRow.own_bd {w : World} {base : Nat} {v : Value} {L : List Sg} (h : SigRow w base v L) : ∀ b, v.ownBlock = some b → base ≤ b ∧ b < w.heap.size := by
  intro b hb
  rcases h.1.2 with ⟨rfl, _⟩ | ⟨g, cap, cur, rfl, h2, h3, _⟩
  · simp [Value.ownBlock] at hb
  · simp only [Value.ownBlock, Option.some.injEq] at hb
    subst hb
    exact ⟨h2, heap_lt h3⟩

theorem SigRow.kbX {X : Nat → Prop} {W W' : World} {base : Nat} {v : Value} {L : List Sg} (h : SigRow W base v L) (hk : Kb X W W') (h5 : ∀ (b : Nat) (cur : Array Value), W.heap[b]? = some (.cells cur 5 (0, 0)) → ¬ X b) (hv : ∀ b, v.ownBlock = some b → ¬ X b) : SigRow W' base v L := by
  refine ⟨⟨h.1.1, ?_⟩, fun s hs => (h.2 s hs).kept fun b cur hb => by rw [hk.block b (heap_lt hb) (h5 b cur hb)]; exact hb⟩
  rcases h.1.2 with h0 | ⟨g, cap, cur, e, h2, h3, r⟩
  · exact .inl h0
  · exact .inr ⟨g, cap, cur, e, h2, by rw [hk.block g (heap_lt h3) (hv g (by rw [e]; rfl))]; exact h3, r⟩

theorem NoteIn.kbX {X : Nat → Prop} {W W' : World} {nb l c n k : Nat} {p q : Option Addr} {xs : List Int} {M : List Sg} (h : NoteIn W nb p l c q n k xs M) (hk : Kb X W W') (h5 : ∀ (b : Nat) (cur : Array Value), W.heap[b]? = some (.cells cur 5 (0, 0)) → ¬ X b)
    (hnb : ¬ X nb) (hv : ∀ b, (Value.slice q n k).ownBlock = some b → ¬ X b) : NoteIn W' nb p l c q n k xs M :=
  ⟨by rw [hk.block nb (heap_lt h.blk) hnb]; exact h.blk, h.txt.kept fun b cur hb => (by rw [hk.block b (heap_lt hb) (h5 b cur hb)]; exact hb), h.row.kbX hk h5 hv⟩

/-- The list 'want' behind j lines. -/
structure Wt (Wb : World) (v0 : Value) (A B : List Dt) (lim j : Nat) (q2 : Option Addr) (n2 k2 : Nat) (M2 : List Sg) (wr : World) : Prop where
  row : SigRow wr 0 (.slice q2 n2 k2) M2
  len : M2.length ≤ lim + j
  data : M2.map Sg.data = mergeTo A B j
  kb : Kb (fun b => some b = v0.ownBlock) Wb wr
  lies : (Value.slice q2 n2 k2).ownBlock = v0.ownBlock ∨ ∃ b, (Value.slice q2 n2 k2).ownBlock = some b ∧ Wb.heap.size ≤ b

theorem Wt.skip {Wb wr w1 : World} {v0 : Value} {A B : List Dt} {lim j : Nat} {q2 : Option Addr} {n2 k2 : Nat} {M2 : List Sg} {s : Sg} (h : Wt Wb v0 A B lim j q2 n2 k2 M2 wr)
    (hb : Below wr.heap.size wr w1) (hj : j < B.length) (hs : s.data = B[j]) (hk : s.keyv ∈ M2.map Sg.keyv) : Wt Wb v0 A B lim (j + 1) q2 n2 k2 M2 w1 :=
  ⟨h.row.below hb, by have := h.len; omega, by rw [mergeTo_succ _ _ _ hj, ← h.data, ← hs, mergeStep, if_pos ((hasKey_iff M2 s).2 hk)], h.kb.step hb, h.lies⟩

theorem Wt.push {Wb wr w1 w3 : World} {v0 v3 : Value} {A B : List Dt} {lim j : Nat} {q2 : Option Addr} {n2 k2 g3 cap3 : Nat} {M2 : List Sg} {s : Sg} (h : Wt Wb v0 A B lim j q2 n2 k2 M2 wr)
    (hb : Below wr.heap.size wr w1) (hok : s.ok w1) (hj : j < B.length) (hs : s.data = B[j]) (hk : s.keyv ∉ M2.map Sg.keyv)
    (hg : (w1.alloc s.obj).grownBy w3 (Value.slice q2 n2 k2).ownBlock) (e3 : v3 = .slice (some ⟨g3, 0, none⟩) (M2.length + 1) cap3) (hown : w3.ownsRow 0 32 3 v3 (M2.length + 1) (flat M2 ++ s.cells))
    (hat : (Value.slice q2 n2 k2).ownBlock = some g3 ∨ g3 = w1.heap.size + 1) : Wt Wb v0 A B lim (j + 1) (some ⟨g3, 0, none⟩) (M2.length + 1) cap3 (M2 ++ [s]) w3 := by
  subst e3
  refine ⟨h.row.push hb hok hg hown, ?_, ?_, ?_, ?_⟩
  · rw [List.length_append]; have := h.len; simp; omega
  · rw [mergeTo_succ _ _ _ hj, ← h.data, ← hs, mergeStep, if_neg (fun hh => hk ((hasKey_iff M2 s).1 hh)), List.map_append]; rfl
  · refine Kb.grown ((h.kb.step hb).step ((Below.refl _ _).alloc (Nat.le_refl _) s.obj)) hg ?_
    intro b hb
    rcases h.lies with e | ⟨b', e, hb'⟩
    · exact .inr (by rw [← e, hb])
    · rw [hb] at e; cases e; exact .inl hb'
  · rcases hat with e | e
    · rcases h.lies with e2 | ⟨b', e2, hb'⟩
      · exact .inl (by rw [← e2, e]; rfl)
      · exact .inr ⟨b', by rw [← e2, e]; rfl, hb'⟩
    · have := h.kb.size
      have := hb.size
      exact .inr ⟨g3, rfl, by omega⟩

theorem merge_big (pa pm pt : Option Addr) (la ca lm cm lt ct : Nat) (w : World) (h : 1024 < lm ∨ 1024 < lt ∨ 65536 < la) :
    Calls Yba.prog 3 #[.slice pa la ca, .slice pm lm cm, .slice pt lt ct] w fun e w' => e = .returned (.bool true) ∧ Below w.heap.size w w' := by
  by_cases h1 : 1024 < lm
  · go_enter Yba.func3, Yba.ntmps3
    go_wp2
    go_ret
    exact ⟨rfl, Below.refl _ _⟩
  · by_cases h2 : 1024 < lt
    · go_enter Yba.func3, Yba.ntmps3
      go_wp2
      go_ret
      exact ⟨rfl, Below.refl _ _⟩
    · have h3 : 65536 < la := by omega
      go_enter Yba.func3, Yba.ntmps3
      go_wp2
      go_ret
      exact ⟨rfl, Below.refl _ _⟩

/-- The lines that zzs1803bsigs makes have keys that can be read as keys. -/
theorem keyed_of {w : World} {a : Option Addr} {len cap : Nat} {L X : List Sg} (hA : ArgRow w a len cap L) (hk : ∀ s ∈ L, s.name.size ≤ maxLen) (hD : X.map Sg.data = L.map Sg.made) : ∀ s ∈ X, s.keyed := by
  intro s hs
  have : s.data ∈ L.map Sg.made := by rw [← hD]; exact List.mem_map.2 ⟨s, hs, rfl⟩
  obtain ⟨t, ht, e⟩ := List.mem_map.1 this
  simp only [Sg.made, Sg.data, Prod.mk.injEq] at e
  refine ⟨by rw [← e.1]; exact hk t ht, ?_⟩
  have hb : 0 ≤ t.key ∧ t.key < 4294967296 := by
    rcases hA.2 with ⟨_, h0⟩ | ⟨x, _, _, hc⟩
    · have h1 := hA.1
      have : L = [] := List.length_eq_zero_iff.1 (by omega)
      subst this
      cases ht
    · obtain ⟨i, hi, rfl⟩ := List.getElem_of_mem ht
      obtain ⟨_, _, _, _, _, _, c5, c6⟩ := hc i hi
      exact ⟨c5, c6⟩
  have h1 : IntKind.u32.min = 0 := rfl
  have h2 : IntKind.u32.max = 4294967295 := rfl
  rw [← e.2.1]
  simp only [Lit.wf, Bool.and_eq_true, decide_eq_true_eq]
  rw [Int.tmod_eq_emod_of_nonneg hb.1]
  omega

set_option maxHeartbeats 8000000 in
set_option maxRecDepth 100000 in
theorem merge_walk (pa pm pt : Option Addr) (la ca lm cm lt ct : Nat) (xs : List Int) (L M : List Sg) (w : World)
    (hlm : lm ≤ 1024) (hlt : lt ≤ 1024) (hla : la ≤ 65536) (lx : xs.length = la) (bx : Lib.BytesIn w pa la xs)
    (hm : ArgRow w pm lm cm L) (ht : ArgRow w pt lt ct M) (kL : ∀ s ∈ L, s.name.size ≤ maxLen) (kM : ∀ s ∈ M, s.name.size ≤ maxLen) :
    Calls Yba.prog 3 #[.slice pa la ca, .slice pm lm cm, .slice pt lt ct] w fun e w' => e = .returned (.bool true) ∧ Below w.heap.size w w' := by
  have BX : Hid (Lib.BytesIn w pa la xs) := bx
  have HM : Hid (ArgRow w pm lm cm L) := hm
  have HT : Hid (ArgRow w pt lt ct M) := ht
  clear bx hm ht
  have t1 : decide (1024 < (lm : Int)) = false := decide_eq_false (by omega)
  have t2 : decide (1024 < (lt : Int)) = false := decide_eq_false (by omega)
  have t3 : decide (65536 < (la : Int)) = false := decide_eq_false (by omega)
  go_enter Yba.func3, Yba.ntmps3
  go_wp2_with fail
  clear t1 t2 t3
  -- n
  refine (clone_any pa la ca xs w lx (by omega) BX.out).mono ?_
  rintro e w1 ⟨p1, c1, rfl, ok1, b1⟩
  have z1 := b1.size
  have OK1 : Hid ((Sg.mk ByteArray.empty 0 p1 la c1 xs).ok w1) := ok1 _ _
  clear ok1
  go_wp2_with fail
  refine (sigs_any pm lm cm L w1 hlm (HM.out.below b1)).mono ?_
  rintro e w2 ⟨v2, M2, rfl, R2, D2, b2⟩
  have z2 := b2.size
  obtain ⟨q2, k2, rfl⟩ := R2.form
  obtain ⟨n2, hn2⟩ : ∃ n2, n2 = M2.length := ⟨_, rfl⟩
  rw [← hn2] at R2 ⊢
  have N3 := NoteIn.made OK1.out b2 R2 b1
  have o3 := R2.own_bd
  have g3 : Below w.heap.size w (w2.alloc (.cells #[.slice p1 la c1, .slice q2 n2 k2] 29)) := (b1.trans (b2.mono z1)).alloc (by omega) _
  have D3 : Hid (M2.map Sg.data = L.map Sg.made) := D2
  have s3 : (w2.alloc (.cells #[.slice p1 la c1, .slice q2 n2 k2] 29)).heap.size = w2.heap.size + 1 := by simp
  clear OK1 R2 D2 b1 b2 hn2
  go_wp2_with fail
  generalize hw3 : w2.alloc (.cells #[.slice p1 la c1, .slice q2 n2 k2] 29) = w3 at N3 g3 s3 ⊢
  clear hw3
  generalize w2.heap.size = nb at N3 z2 o3 s3 ⊢
  have S3 : Hid (w3.heap.size = nb + 1) := s3
  clear s3
  have O3 : Hid (∀ b, (Value.slice q2 n2 k2).ownBlock = some b → w1.heap.size ≤ b ∧ b < nb) := o3
  clear o3
  have z3 := g3.size
  -- o
  refine (clone_any pa la ca xs w3 lx (by omega) (bytesIn_below BX.out g3)).mono ?_
  rintro e w4 ⟨p4, c4, rfl, ok4, b4⟩
  have z4 := b4.size
  have OK4 : Hid ((Sg.mk ByteArray.empty 0 p4 la c4 xs).ok w4) := ok4 _ _
  clear ok4
  go_wp2_with fail
  refine (sigs_any pt lt ct M w4 hlt (HT.out.below (g3.trans (b4.mono z3)))).mono ?_
  rintro e w5 ⟨v5, M5, rfl, R5, D5, b5⟩
  have z5 := b5.size
  obtain ⟨q5, k5, rfl⟩ := R5.form
  obtain ⟨n5, hn5⟩ : ∃ n5, n5 = M5.length := ⟨_, rfl⟩
  rw [← hn5] at R5 ⊢
  have N6 := NoteIn.made OK4.out b5 R5 b4
  have o6 := R5.own_bd
  have h36 : Below w3.heap.size w3 (w5.alloc (.cells #[.slice p4 la c4, .slice q5 n5 k5] 29)) := (b4.trans (b5.mono z4)).alloc (by omega) _
  have M6 := N3.below h36
  have g6 := g3.trans (h36.mono z3)
  have D6 : Hid (M5.map Sg.data = M.map Sg.made) := D5
  have s6 : (w5.alloc (.cells #[.slice p4 la c4, .slice q5 n5 k5] 29)).heap.size = w5.heap.size + 1 := by simp
  clear OK4 R5 D5 b4 b5 hn5 N3 g3 h36
  go_wp2_with fail
  generalize hw6 : w5.alloc (.cells #[.slice p4 la c4, .slice q5 n5 k5] 29) = w6 at N6 M6 g6 s6 ⊢
  clear hw6
  generalize w5.heap.size = ob at N6 z5 o6 s6 ⊢
  have S6 : Hid (w6.heap.size = ob + 1) := s6
  clear s6
  have O6 : Hid (∀ b, (Value.slice q5 n5 k5).ownBlock = some b → w4.heap.size ≤ b ∧ b < ob) := o6
  clear o6
  have z6 := g6.size
  -- want
  refine (sigs_any pm lm cm L w6 hlm (HM.out.below g6)).mono ?_
  rintro e w7 ⟨v7, M7, rfl, R7, D7, b7⟩
  have z7 := b7.size
  obtain ⟨q7, k7, rfl⟩ := R7.form
  obtain ⟨n7, hn7⟩ : ∃ n7, n7 = M7.length := ⟨_, rfl⟩
  rw [← hn7] at R7 ⊢
  have o7 : Hid (∀ b, (Value.slice q7 n7 k7).ownBlock = some b → w6.heap.size ≤ b ∧ b < w7.heap.size) := R7.own_bd
  have g7 := g6.trans (b7.mono z6)
  have X7 := M6.below b7
  have Y7 := N6.below b7
  have HN7 : Hid (n7 = M7.length) := hn7
  have D7 : Hid (M7.map Sg.data = L.map Sg.made) := D7
  have R7 : Hid (SigRow w7 w6.heap.size (.slice q7 n7 k7) M7) := R7
  clear M6 N6 g6 b7 hn7
  go_wp2_with fail
  -- the lines of theirs
  refine (sigs_any pt lt ct M w7 hlt (HT.out.below g7)).mono ?_
  rintro e w8 ⟨v8, M8, rfl, R8, D8, b8⟩
  have z8 := b8.size
  obtain ⟨q8, k8, rfl⟩ := R8.form
  obtain ⟨n8, hn8⟩ : ∃ n8, n8 = M8.length := ⟨_, rfl⟩
  rw [← hn8] at R8 ⊢
  have o8 : Hid (∀ b, (Value.slice q8 n8 k8).ownBlock = some b → w7.heap.size ≤ b ∧ b < w8.heap.size) := R8.own_bd
  have g8 := g7.trans (b8.mono (Nat.le_trans z6 z7))
  have X8 : Hid (NoteIn w8 nb p1 la c1 q2 n2 k2 xs M2) := X7.below b8
  have Y8 : Hid (NoteIn w8 ob p4 la c4 q5 n5 k5 xs M5) := Y7.below b8
  have HN8 : Hid (n8 = M8.length) := hn8
  have D8 : Hid (M8.map Sg.data = M.map Sg.made) := D8
  have l7 : M7.length = L.length := by have := congrArg List.length D7.out; simpa using this
  have l8 : M8.length = M.length := by have := congrArg List.length D8.out; simpa using this
  have b7' : n7 ≤ 1024 := by have := HM.out.1; have := HN7.out; omega
  have b8' : n8 ≤ 1024 := by have := HT.out.1; omega
  have ST : Wt w8 (.slice q7 n7 k7) (M7.map Sg.data) (M8.map Sg.data) n7 0 q7 n7 k7 M7 w8 :=
    ⟨(R7.out.below b8).mono (Nat.zero_le _), by have := HN7.out; omega, rfl, Kb.of_below (Below.refl _ _), .inl rfl⟩
  have R8 : Hid (SigRow w8 w7.heap.size (.slice q8 n8 k8) M8) := R8
  have R78 : Hid (SigRow w8 0 (.slice q7 n7 k7) M7) := ST.row
  clear X7 Y7 b8 hn8 R7 g7 l7 l8
  go_wp2_with fail
  go_loopg [9, 46] n8 (fun kx s9 s46 wr => ∃ (j : Nat) (qw : Option Addr) (nw kw : Nat) (Mw : List Sg), j ≤ n8 ∧ kx = n8 - j ∧ s46 = .int .i64 j ∧ .slice qw nw kw = s9 ∧ Wt w8 (.slice q7 n7 k7) (M7.map Sg.data) (M8.map Sg.data) n7 j qw nw kw Mw wr)
  case atStart => exact ⟨0, q7, n7, k7, M7, Nat.zero_le _, rfl, rfl, rfl, ST⟩
  case round =>
    clear ST
    obtain ⟨j, qw, nw, kw, Mw, hj, hkx, rfl, rfl, st⟩ := hrel
    generalize wr = wo at st ⊢
    have h5 : ∀ (b : Nat) (cur : Array Value), w8.heap[b]? = some (.cells cur 5 (0, 0)) → ¬ (some b = (Value.slice q7 n7 k7).ownBlock) := fun b cur hb => own_ne R78.out hb (by decide)
    by_cases hlt2 : j < n8
    · have hjN : j < M8.length := by have := HN8.out; omega
      have RT := R8.out.kbX st.kb h5 (fun b hb e => by have h1 := (o8.out b hb).1; have h2 := (o7.out b e.symm).2; omega)
      obtain ⟨g, cap, e, _, a1, a2, a3⟩ := RT.cells hjN
      simp only [Value.slice.injEq] at e
      obtain ⟨rfl, e2, rfl⟩ := e
      clear e2
      have hD : M8[j].data = (M8.map Sg.data)[j]'(by simpa using hjN) := by simp
      have hok := RT.2 _ (List.getElem_mem hjN)
      generalize M8[j] = s at a1 a2 a3 hD hok
      obtain ⟨sn, sk, sp, sl, sc, sb⟩ := s
      simp only at a1 a2 a3
      have HD : Hid _ := hD
      obtain ⟨nw', hnw⟩ : nw = Mw.length ∧ True := by
        obtain ⟨_, _, e1⟩ := st.row.form
        simp only [Value.slice.injEq] at e1
        exact ⟨e1.2.1, trivial⟩
      have HW : Hid (nw = Mw.length) := nw'
      have lw : nw ≤ 2048 := by have := st.len; omega
      clear hD nw' hnw RT
      go_wp2_with fail
      have bb1 : Below wo.heap.size wo (wo.alloc (.cells #[.string sn, .int .u32 sk, .slice sp sl sc] 32)) := (Below.refl _ _).alloc (Nat.le_refl _) _
      have hsb : (wo.alloc (.cells #[.string sn, .int .u32 sk, .slice sp sl sc] 32)).heap[wo.heap.size]? = some (.cells #[.string sn, .int .u32 sk, .slice sp sl sc] 32) := heap_alloc_new wo _
      generalize wo.alloc (.cells #[.string sn, .int .u32 sk, .slice sp sl sc] 32) = wr1 at bb1 hsb ⊢
      have zz := bb1.size
      have HSB : Hid (wr1.heap[wo.heap.size]? = some (.cells #[.string sn, .int .u32 sk, .slice sp sl sc] 32)) := hsb
      clear a1 a2 a3 hsb
      generalize hsg : wo.heap.size = sgb at HSB ⊢
      have HSG : Hid (wo.heap.size = sgb) := hsg
      clear hsg
      go_loopg [12, 52] nw (fun ky s12 s52 wi => ∃ i : Nat, i ≤ nw ∧ ky = nw - i ∧ s52 = .int .i64 i ∧ s12 = .bool false ∧ Below wr1.heap.size wr1 wi ∧ Hid (∀ t (h : t < Mw.length), t < i → Mw[t].keyv ≠ keyV sn sk))
      case atStart => exact ⟨0, Nat.zero_le _, rfl, rfl, rfl, Below.refl _ _, (fun t _ h => absurd h (Nat.not_lt_zero _) : ∀ t (h : t < Mw.length), t < 0 → Mw[t].keyv ≠ keyV sn sk)⟩
      case round =>
        obtain ⟨i, hi, hky, rfl, rfl, bi, HNM⟩ := hrel
        have bo : Below wo.heap.size wo wr := bb1.trans (bi.mono zz)
        have zi := bi.size
        have hsb := block_below HSB.out bi
        have x0 : wr.cell? ⟨sgb, 0, none⟩ = some (.string sn) := cell_of_block hsb rfl
        have x1 : wr.cell? ⟨sgb, 1, none⟩ = some (.int .u32 sk) := cell_of_block hsb rfl
        have x2 : wr.cell? ⟨sgb, 2, none⟩ = some (.slice sp sl sc) := cell_of_block hsb rfl
        have hsg : sgb < wr.heap.size := heap_lt hsb
        clear hsb
        by_cases hin : i < nw
        · have hiW : i < Mw.length := by have := HW.out; omega
          obtain ⟨gw, capw, ew, _, y1, y2, y3⟩ := (st.row.below bo).cells hiW
          simp only [Value.slice.injEq] at ew
          obtain ⟨rfl, ew2, rfl⟩ := ew
          clear ew2
          have hmem : Mw[i].keyv ∈ Mw.map Sg.keyv := List.mem_map.2 ⟨_, List.getElem_mem hiW, rfl⟩
          have HNX : Hid (∀ (_ : Mw[i].keyv ≠ keyV sn sk), ∀ t (h : t < Mw.length), t < i + 1 → Mw[t].keyv ≠ keyV sn sk) := fun hne t h ht => by
            by_cases hti : t < i
            · exact HNM.out t h hti
            · obtain rfl : t = i := by omega
              exact hne
          generalize Mw[i] = u at y1 y2 y3 hmem HNX
          obtain ⟨un, uk, up, ul, uc, ub⟩ := u
          simp only at y1 y2 y3
          by_cases e1 : un = sn
          · by_cases e2 : uk = sk
            · -- the same key
              have q1 : (un.toList == sn.toList) = true := by rw [e1]; simp
              have q2' : (uk == sk) = true := by simp [e2]
              have hmem' : (Sg.mk sn sk sp sl sc sb).keyv ∈ Mw.map Sg.keyv := by subst e1 e2; exact hmem
              have st' := st.skip (bo.trans (((Below.refl wo.heap.size wr).alloc (by have := bo.size; exact this) (.cells #[.string un, .int .u32 uk, .slice up ul uc] 32)))) (by simpa using hjN) HD.out hmem'
              have ST' : Hid _ := st'
              clear e1 e2 hmem hmem' st' HNX HNM st
              go_wp2
              go_roundg (n8 - (j + 1))
              case measure => omega
              case rel => exact ⟨j + 1, _, _, _, _, by omega, rfl, by go_num, rfl, ST'.out⟩
            · have q1 : (un.toList == sn.toList) = true := by rw [e1]; simp
              have q2' : (uk == sk) = false := by simp [e2]
              have HNY : Hid _ := HNX.out (fun h => e2 (keyV_inj h).2)
              clear e1 e2 hmem HNX HNM
              go_wp2
              go_roundg (nw - (i + 1))
              case measure => omega
              case rel => exact ⟨i + 1, by omega, rfl, by go_num, rfl, bi.alloc zi _, HNY⟩
          · have q1 : (un.toList == sn.toList) = false := by
              rw [beq_eq_false_iff_ne]
              intro h
              rw [ByteArray.toList_eq, ByteArray.toList_eq] at h
              exact e1 (WideShapes.bytes_inj h)
            have HNY : Hid _ := HNX.out (fun h => e1 (keyV_inj h).1)
            clear e1 hmem HNX HNM
            go_wp2
            go_roundg (nw - (i + 1))
            case measure => omega
            case rel => exact ⟨i + 1, by omega, rfl, by go_num, rfl, bi.alloc zi _, HNY⟩
        · -- no line of this key: it is appended
          have hnin : (Sg.mk sn sk sp sl sc sb).keyv ∉ Mw.map Sg.keyv := by
            intro h
            obtain ⟨t, ht, e⟩ := List.mem_map.1 h
            obtain ⟨k, hk, rfl⟩ := List.getElem_of_mem ht
            exact HNM.out k hk (by have := HW.out; omega) e
          have ROW : Hid (SigRow wr 0 (.slice qw nw kw) Mw) := st.row.below bo
          have ok' : (Sg.mk sn sk sp sl sc sb).ok wr := hok.below bo (Nat.le_refl _)
          have lMw : Mw.length ≤ 2048 := by have := HW.out; omega
          have HNI : Hid _ := hnin
          have OK' : Hid _ := ok'
          clear hnin HNM ok'
          obtain ⟨i0, hi0, hz0, hz1, hz2⟩ := info_parts Yba.info32
          go_wp2_with (at_builtin; refine wpList_append_lies _ rfl _ _ _ rfl 0 32 i0 _ 3 48 Yba.underlying26 hi0 hz0 hz1 hz2 rfl (by omega) (.slice qw nw kw) Mw.length (flat Mw) (by rfl) (ROW.out.1.alloc _) ⟨wr.heap.size, 0, none⟩ 1 1 [.string sn, .int .u32 sk, .slice sp sl sc] (by rfl) (by rfl) (World.news_of_block (cs := #[.string sn, .int .u32 sk, .slice sp sl sc]) (t := 32) (fr := (0, 0)) (heap_alloc_new wr _)) (by simp [Value.oneCell']) (by omega) (by unfold maxLen; omega) (by omega) (by simp) (wr.heap.size + 1) (by simp) ?_; intro g3 cap3 w3' hown3 hgrow3 hat3 hlt3)
          have st' := st.push (s := ⟨sn, sk, sp, sl, sc, sb⟩) bo OK'.out (by simpa using hjN) HD.out HNI.out hgrow3 rfl hown3 hat3
          have ST' : Hid _ := st'
          clear hown3 hgrow3 hat3 hlt3 st' st HNI OK' ROW
          go_wp2
          go_roundg (n8 - (j + 1))
          case measure => omega
          case rel => exact ⟨j + 1, _, _, _, _, by omega, rfl, by go_num, rfl, ST'.out⟩
    · obtain rfl : j = n8 := by omega
      have A1 : NoteIn wo nb p1 la c1 q2 n2 k2 xs M2 := X8.out.kbX st.kb h5 (own_ne R78.out X8.out.blk (by decide)) (fun b hb e => by
        have h1 := (O3.out b hb).2; have h2 := (o7.out b e.symm).1; have h3 := S3.out; have h4 := S6.out; omega)
      have A2 : NoteIn wo ob p4 la c4 q5 n5 k5 xs M5 := Y8.out.kbX st.kb h5 (own_ne R78.out Y8.out.blk (by decide)) (fun b hb e => by
        have h1 := (O6.out b hb).2; have h2 := (o7.out b e.symm).1; have h4 := S6.out; omega)
      have kM2 := keyed_of HM.out kL D3.out
      have kM5 := keyed_of HT.out kM D6.out
      have lM2 : M2.length ≤ 1024 := by have h := congrArg List.length D3.out; simp only [List.length_map] at h; have := HM.out.1; omega
      have lM5 : M5.length ≤ 1024 := by have h := congrArg List.length D6.out; simp only [List.length_map] at h; have := HT.out.1; omega
      have hrow : (Value.slice q2 n2 k2).ownBlock = none ∨ (Value.slice q2 n2 k2).ownBlock ≠ (Value.slice q5 n5 k5).ownBlock := by
        cases hb : (Value.slice q2 n2 k2).ownBlock with
        | none => exact .inl rfl
        | some b =>
          right
          intro e
          have h1 := (O3.out b hb).2; have h2 := (O6.out b e.symm).1; have h3 := S3.out; omega
      have hmg := merge_ok nb ob la c1 n2 k2 la c4 n5 k5 p1 q2 p4 q5 xs xs M2 M5 wo A1 A2 (by simp) lM2 lM5 kM2 kM5 (by have := S3.out; omega) hrow
      -- all that was there at the start is as it was
      have fin : ∀ Wm, Kb (mayW nb (.slice q2 n2 k2)) wo Wm → Below w.heap.size w Wm := by
        intro Wm hk
        have zo := st.kb.size
        have zm := hk.size
        have zg := g8.size
        refine ⟨hk.os.trans (st.kb.os.trans g8.os), hk.tape.trans (st.kb.tape.trans g8.tape), hk.output.trans (st.kb.output.trans g8.output), by omega, fun b hb => ?_⟩
        rw [hk.block b (by omega) (fun hx => ?_), st.kb.block b (by omega) (fun hx => ?_), g8.block b hb]
        · have := (o7.out b hx.symm).1; omega
        · rcases hx with hx | hx
          · omega
          · have := (O3.out b hx.symm).1; omega
      have wrow : ∀ Wm, Kb (mayW nb (.slice q2 n2 k2)) wo Wm → SigRow Wm 0 (.slice qw nw kw) Mw := by
        intro Wm hk
        refine st.row.kbX hk (fun b cur hb hx => ?_) (fun b hb hx => ?_)
        · rcases hx with hx | hx
          · subst hx
            have h3 := A1.blk
            rw [hb] at h3
            simp only [Option.some.injEq, Obj.cells.injEq] at h3
            exact absurd h3.2.1 (by decide)
          · exact own_ne A1.row hb (by decide) hx
        · rcases hx with hx | hx
          · subst hx
            exact own_ne st.row A1.blk (by decide) hb.symm
          · have h1 := (O3.out b hx.symm).2
            rcases st.lies with e | ⟨b', e, hb'⟩
            · rw [e] at hb
              have h2 := (o7.out b hb).1; have h3 := S3.out; have h4 := S6.out; omega
            · rw [hb] at e; cases e
              have h3 := S3.out; have h4 := S6.out; omega
      have lMw : Mw.length ≤ 1000000 := by have := st.len; omega
      have DW : Hid (Mw.map Sg.data = mergeTo (L.map Sg.made) (M.map Sg.made) j) := by have h := st.data; rw [D7.out, D8.out] at h; exact h
      have FIN : Hid _ := fin
      have WROW : Hid _ := wrow
      have LJ : Hid (j = M5.length) := by
        have h1 := congrArg List.length D6.out
        have h2 := congrArg List.length D8.out
        simp only [List.length_map] at h1 h2
        have := HN8.out
        show j = M5.length
        omega
      clear fin wrow A1 A2 kM2 kM5 hrow h5 st R78 R8 X8 Y8 D7 D8 kL kM o7 o8 hlt2 hkx hj HN7 HN8
      go_wp2_with fail
      refine hmg.mono ?_
      rintro e wm ⟨rfl, qn, nn, kn, Mn, P1, P2, PD, PL, PK, _⟩
      clear hmg
      have gm := FIN.out wm PK
      have rw_ := WROW.out wm PK
      have cn0 := P1.cell0
      have e1 : Calls Yba.prog 8 #[.slice p1 la c1, .slice pa la ca] wm fun e w' => e = .returned (.bool true) ∧ w' = wm := by
        have h := equal_any p1 pa la c1 la ca xs xs wm lx lx P1.txt.bytes (bytesIn_below BX.out gm)
        simpa using h
      have PDH : Hid (Mn.map Sg.data = Mw.map Sg.data) := by
        show Mn.map Sg.data = Mw.map Sg.data
        rw [PD, DW.out, D3.out, D6.out, LJ.out]
      have PLH : Mn.length ≤ 1000000 := by omega
      clear FIN WROW PK DW PD PL
      go_wp2_with fail
      refine e1.mono ?_
      rintro e wm ⟨rfl, rfl⟩
      clear e1 cn0
      have ST : Hid (NoteIn wm nb p1 la c1 qn nn kn xs Mn ∧ NoteIn wm ob p4 la c4 q5 n5 k5 xs M5 ∧ SigRow wm 0 (.slice qw nw kw) Mw ∧ Below w.heap.size w wm) := ⟨P1, P2, rw_, gm⟩
      clear P1 P2 rw_ gm
      have step : ∀ W W', (NoteIn W nb p1 la c1 qn nn kn xs Mn ∧ NoteIn W ob p4 la c4 q5 n5 k5 xs M5 ∧ SigRow W 0 (.slice qw nw kw) Mw ∧ Below w.heap.size w W) → Below W.heap.size W W' →
          Hid (NoteIn W' nb p1 la c1 qn nn kn xs Mn ∧ NoteIn W' ob p4 la c4 q5 n5 k5 xs M5 ∧ SigRow W' 0 (.slice qw nw kw) Mw ∧ Below w.heap.size w W') ∧ W'.cell? ⟨ob, 1, none⟩ = some (.slice q5 n5 k5) ∧ W'.cell? ⟨nb, 1, none⟩ = some (.slice qn nn kn) := fun W W' h hb =>
        ⟨⟨h.1.below hb, h.2.1.below hb, h.2.2.1.below hb, h.2.2.2.trans (hb.mono h.2.2.2.size)⟩, (h.2.1.below hb).cell1, (h.1.below hb).cell1⟩
      have STEP : Hid _ := step
      clear step
      have s2 : ∀ (W : World), (NoteIn W nb p1 la c1 qn nn kn xs Mn ∧ NoteIn W ob p4 la c4 q5 n5 k5 xs M5 ∧ SigRow W 0 (.slice qw nw kw) Mw ∧ Below w.heap.size w W) →
          Calls Yba.prog 6 #[.slice pt lt ct] W fun e w'' => ∃ q nn' k X, e = .returned (.slice q nn' k) ∧ Hid (SigRow w'' 0 (.slice q nn' k) X ∧ M5.map Sg.data = X.map Sg.data) ∧
            Hid (NoteIn w'' nb p1 la c1 qn nn kn xs Mn ∧ NoteIn w'' ob p4 la c4 q5 n5 k5 xs M5 ∧ SigRow w'' 0 (.slice qw nw kw) Mw ∧ Below w.heap.size w w'') ∧ w''.cell? ⟨ob, 1, none⟩ = some (.slice q5 n5 k5) ∧ w''.cell? ⟨nb, 1, none⟩ = some (.slice qn nn kn) := by
        intro W hS
        refine (sigs_any pt lt ct M W hlt (HT.out.below hS.2.2.2)).mono ?_
        rintro e w'' ⟨v, X, rfl, R, D, hb⟩
        obtain ⟨q, k, rfl⟩ := R.form
        exact ⟨q, _, k, X, rfl, ⟨R.mono (Nat.zero_le _), D6.out.trans D.symm⟩, STEP.out W w'' hS hb⟩
      have eq5 : ∀ (q : Option Addr) (nn' k : Nat) (X : List Sg) (W : World), (SigRow W 0 (.slice q nn' k) X ∧ M5.map Sg.data = X.map Sg.data) → (NoteIn W nb p1 la c1 qn nn kn xs Mn ∧ NoteIn W ob p4 la c4 q5 n5 k5 xs M5 ∧ SigRow W 0 (.slice qw nw kw) Mw ∧ Below w.heap.size w W) →
          Calls Yba.prog 9 #[.slice q5 n5 k5, .slice q nn' k] W fun e w'' => e = .returned (.bool true) ∧ Hid (NoteIn w'' nb p1 la c1 qn nn kn xs Mn ∧ NoteIn w'' ob p4 la c4 q5 n5 k5 xs M5 ∧ SigRow w'' 0 (.slice qw nw kw) Mw ∧ Below w.heap.size w w'') ∧ w''.cell? ⟨ob, 1, none⟩ = some (.slice q5 n5 k5) ∧ w''.cell? ⟨nb, 1, none⟩ = some (.slice qn nn kn) := by
        intro q nn' k X W hX hS
        refine (eqall_true 0 _ _ M5 X W hS.2.1.row hX.1 hX.2 (by omega)).mono ?_
        rintro e w'' ⟨rfl, hb⟩
        exact ⟨rfl, STEP.out W w'' hS hb⟩
      have ST1 := STEP.out wm (wm.drewN 1) ST.out (belowD (Below.refl _ _) 1)
      have c71 : wm.cell? ⟨ob, 1, none⟩ = some (.slice q5 n5 k5) := ST1.2.1
      have ST2 := ST1.1
      have E : Hid _ := eq5
      have S2 : Hid _ := s2
      clear ST1 eq5 s2
      go_wp2_with fail
      go_region_held3 (fun W => W.cell? ⟨ob, 1, none⟩ = some (.slice q5 n5 k5)) (go_keep)
        (first
          | (go_at_call 6; refine Calls.mono (S2.out _ ST2.out) ?_; rintro e w9 ⟨q9, n9, k9, X9, rfl, R9, T9, a9, b9⟩)
          | (go_at_call 9; refine Calls.mono (E.out q9 n9 k9 X9 w9 R9.out T9.out) ?_; rintro e w10 ⟨rfl, T10, a10, b10⟩))
      have h26 : Calls Yba.prog 9 #[.slice qn nn kn, .slice qw nw kw] w10 fun e w' => e = .returned (.bool true) ∧ Below w.heap.size w w' := by
        refine (eqall_true 0 _ _ Mn Mw w10 T10.out.1.row T10.out.2.2.1 PDH.out PLH).mono ?_
        rintro e w'' ⟨rfl, hb⟩
        exact ⟨rfl, T10.out.2.2.2.trans (hb.mono T10.out.2.2.2.size)⟩
      go_wp2_with (go_at_call 9; refine h26.mono ?_; rintro e w11 ⟨rfl, hb11⟩)
      go_ret
      exact ⟨rfl, hb11⟩
end Go.Proofs.Ybulkakhw
