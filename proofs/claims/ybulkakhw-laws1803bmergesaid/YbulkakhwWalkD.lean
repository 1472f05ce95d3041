/-
  Merge where the texts differ.
-/
import Derived.Test.YbulkakhwWalkC
import Derived.BigQuiet
import Derived.Deep.QuietTactic
namespace Go.Proofs.Ybulkakhw
open Go.RowKit
attribute [local go_sem ↓] Go.wp_at_zero Go.wp_at_succ

theorem SigRow.form {w : World} {base : Nat} {v : Value} {L : List Sg} (h : SigRow w base v L) : ∃ p c, v = .slice p L.length c := by
  rcases h.1.2 with ⟨rfl, h0⟩ | ⟨g, cap, cur, rfl, _⟩
  · exact ⟨none, 0, by rw [h0]⟩
  · exact ⟨_, _, rfl⟩
theorem block_below {w w' : World} {b : Nat} {o : Obj} (h : w.heap[b]? = some o) (hb : Below w.heap.size w w') : w'.heap[b]? = some o := by rw [hb.block b (heap_lt h)]; exact h
theorem SigRow.mono {w : World} {base base' : Nat} {v : Value} {L : List Sg} (h : SigRow w base v L) (hb : base' ≤ base) : SigRow w base' v L := by
  refine ⟨⟨h.1.1, ?_⟩, h.2⟩
  rcases h.1.2 with h0 | ⟨g, cap, cur, h1, h2, r⟩
  · exact .inl h0
  · exact .inr ⟨g, cap, cur, h1, Nat.le_trans hb h2, r⟩

/-- A note as it lies: its text's bytes xs, its lines M. -/
structure NoteIn (W : World) (nb : Nat) (p : Option Addr) (l c : Nat) (q : Option Addr) (n k : Nat) (xs : List Int) (M : List Sg) : Prop where
  blk : W.heap[nb]? = some (.cells #[.slice p l c, .slice q n k] 29 (0, 0))
  txt : (Sg.mk ByteArray.empty 0 p l c xs).ok W
  row : SigRow W 0 (.slice q n k) M
theorem NoteIn.below {W W' : World} {nb l c n k : Nat} {p q : Option Addr} {xs : List Int} {M : List Sg} (h : NoteIn W nb p l c q n k xs M) (hb : Below W.heap.size W W') : NoteIn W' nb p l c q n k xs M :=
  ⟨block_below h.blk hb, h.txt.below hb (Nat.le_refl _), h.row.below hb⟩
theorem NoteIn.cell0 {W : World} {nb l c n k : Nat} {p q : Option Addr} {xs : List Int} {M : List Sg} (h : NoteIn W nb p l c q n k xs M) : W.cell? ⟨nb, 0, none⟩ = some (.slice p l c) := cell_of_block h.blk rfl
theorem NoteIn.cell1 {W : World} {nb l c n k : Nat} {p q : Option Addr} {xs : List Int} {M : List Sg} (h : NoteIn W nb p l c q n k xs M) : W.cell? ⟨nb, 1, none⟩ = some (.slice q n k) := cell_of_block h.blk rfl
/-- A note that has just been laid. -/
theorem NoteIn.made {w0 w1 w2 : World} {base l c n k : Nat} {p q : Option Addr} {xs : List Int} {M : List Sg} (h1 : (Sg.mk ByteArray.empty 0 p l c xs).ok w1) (hb : Below w1.heap.size w1 w2) (h2 : SigRow w2 base (.slice q n k) M) (_ : Below w0.heap.size w0 w1) :
    NoteIn (w2.alloc (.cells #[.slice p l c, .slice q n k] 29)) w2.heap.size p l c q n k xs M :=
  have b3 : Below w2.heap.size w2 (w2.alloc (.cells #[.slice p l c, .slice q n k] 29)) := (Below.refl _ _).alloc (Nat.le_refl _) _
  ⟨heap_alloc_new w2 _, (h1.below hb (Nat.le_refl _)).below b3 (Nat.le_refl _), (h2.below b3).mono (Nat.zero_le _)⟩

theorem belowD {B : Nat} {a w : World} (h : Below B a w) (n : Nat) : Below B a (w.drewN n) := ⟨h.os, h.tape, h.output, h.size, h.block⟩

set_option maxHeartbeats 1000000 in
set_option maxRecDepth 100000 in
theorem merge_refuse (nb ob ln cn lo co : Nat) (pn po : Option Addr) (xs ys : List Int) (w : World)
    (hn : w.cell? ⟨nb, 0, none⟩ = some (.slice pn ln cn)) (ho : w.cell? ⟨ob, 0, none⟩ = some (.slice po lo co))
    (lx : xs.length = ln) (ly : ys.length = lo) (bx : Lib.BytesIn w pn ln xs) (by_ : Lib.BytesIn w po lo ys) (hne : (Lib.bytesOf xs == Lib.bytesOf ys) = false) :
    Calls Yba.prog 7 #[.pointer (some ⟨nb, 0, none⟩), .pointer (some ⟨ob, 0, none⟩)] w fun e w' => (∃ x, e = .returned (.iface 46 x)) ∧ Below w.heap.size w w' := by
  have hq : ∀ m, Calls Yba.prog 8 #[.slice pn ln cn, .slice po lo co] (w.drewN m) fun e w' => e = .returned (.bool false) ∧ w' = w.drewN m := fun m => by
    have h := equal_any pn po ln cn lo co xs ys (w.drewN m) lx ly bx by_
    rw [hne] at h
    exact h
  clear bx by_ hne lx ly
  go_enter Yba.func7, Yba.ntmps7
  go_wp2_with fail
  go_quiet (first | (go_at_call 8; exact Calls.quiet_of_same (hq _)))
  go_wp2_with (go_at_call 10; refine (new_any _ _).mono ?_; rintro e w' ⟨rfl, rfl⟩)
  go_ret
  refine ⟨⟨_, rfl⟩, ?_⟩
  exact (belowD (Below.refl _ _) nq).alloc (Nat.le_refl _) _

theorem refuse_big (a b : Value) (pm pt : Option Addr) (lm cm lt ct : Nat) (w : World) (h : 1024 < lm ∨ 1024 < lt) :
    Calls Yba.prog 4 #[a, b, .slice pm lm cm, .slice pt lt ct] w fun e w' => e = .returned (.bool true) ∧ Below w.heap.size w w' := by
  by_cases h1 : 1024 < lm
  · go_enter Yba.func4, Yba.ntmps4
    go_wp2
    go_ret
    exact ⟨rfl, Below.refl _ _⟩
  · have h2 : 1024 < lt := by omega
    go_enter Yba.func4, Yba.ntmps4
    go_wp2
    go_ret
    exact ⟨rfl, Below.refl _ _⟩

set_option maxHeartbeats 4000000 in
set_option maxRecDepth 100000 in
theorem refuse_walk (pa pb pm pt : Option Addr) (la ca lb cb lm cm lt ct : Nat) (xs ys : List Int) (L M : List Sg) (w : World)
    (hlm : lm ≤ 1024) (hlt : lt ≤ 1024) (lx : xs.length = la) (ly : ys.length = lb) (bx : Lib.BytesIn w pa la xs) (by_ : Lib.BytesIn w pb lb ys) (hla : la ≤ 140737488355328) (hlb : lb ≤ 140737488355328)
    (hm : ArgRow w pm lm cm L) (ht : ArgRow w pt lt ct M) :
    Calls Yba.prog 4 #[.slice pa la ca, .slice pb lb cb, .slice pm lm cm, .slice pt lt ct] w fun e w' => e = .returned (.bool true) ∧ Below w.heap.size w w' := by
  have hq := equal_any pa pb la ca lb cb xs ys w lx ly bx by_
  cases hne : (Lib.bytesOf xs == Lib.bytesOf ys) with
  | true =>
    rw [hne] at hq
    clear hm ht bx by_
    go_enter Yba.func4, Yba.ntmps4
    go_wp2_with (go_at_call 8; refine hq.mono ?_; rintro e w' ⟨rfl, rfl⟩)
    go_ret
    exact ⟨rfl, Below.refl _ _⟩
  | false =>
    rw [hne] at hq
    have BX : Hid (Lib.BytesIn w pa la xs) := bx
    have BY : Hid (Lib.BytesIn w pb lb ys) := by_
    have HM : Hid (ArgRow w pm lm cm L) := hm
    have HT : Hid (ArgRow w pt lt ct M) := ht
    have NE : Hid ((Lib.bytesOf xs == Lib.bytesOf ys) = false) := hne
    clear bx by_ hm ht hne
    go_enter Yba.func4, Yba.ntmps4
    go_wp2_with (go_at_call 8; refine hq.mono ?_; rintro e w' ⟨rfl, rfl⟩)
    clear hq
    -- n := &Note{Text: bytes.Clone(a), Signatures: zzs1803bsigs(mine)}
    refine (clone_any pa la ca xs w' lx hla BX.out).mono ?_
    rintro e w1 ⟨p1, c1, rfl, ok1, b1⟩
    have z1 := b1.size
    have OK1 : Hid ((Sg.mk ByteArray.empty 0 p1 la c1 xs).ok w1) := ok1 _ _
    clear ok1
    go_wp2_with fail
    refine (sigs_any pm lm cm L w1 hlm (HM.out.below b1)).mono ?_
    rintro e w2 ⟨v2, M2, rfl, R2, D2, b2⟩
    have z2 := b2.size
    obtain ⟨q2, k2, rfl⟩ := R2.form
    obtain ⟨n2, hn2⟩ : ∃ n2, n2 = M2.length := ⟨_, rfl⟩
    rw [← hn2] at R2 ⊢
    have N3 := NoteIn.made OK1.out b2 R2 b1
    have g3 : Below w'.heap.size w' (w2.alloc (.cells #[.slice p1 la c1, .slice q2 n2 k2] 29)) := (b1.trans (b2.mono z1)).alloc (by omega) _
    have D3 : Hid (M2.map Sg.data = L.map Sg.made) := D2
    have L3 : n2 ≤ 1024 := by have := congrArg List.length D2; simp only [List.length_map] at this; have := HM.out.1; omega
    clear OK1 R2 D2 b1 b2 hn2
    go_wp2_with fail
    generalize hw3 : w2.alloc (.cells #[.slice p1 la c1, .slice q2 n2 k2] 29) = w3 at N3 g3 ⊢
    clear hw3 z1
    generalize w2.heap.size = nb at N3 z2 ⊢
    clear z2
    have z3 := g3.size
    -- o := &Note{Text: bytes.Clone(b), Signatures: zzs1803bsigs(theirs)}
    refine (clone_any pb lb cb ys w3 ly hlb (bytesIn_below BY.out g3)).mono ?_
    rintro e w4 ⟨p4, c4, rfl, ok4, b4⟩
    have z4 := b4.size
    have OK4 : Hid ((Sg.mk ByteArray.empty 0 p4 lb c4 ys).ok w4) := ok4 _ _
    clear ok4
    go_wp2_with fail
    refine (sigs_any pt lt ct M w4 hlt (HT.out.below (g3.trans (b4.mono z3)))).mono ?_
    rintro e w5 ⟨v5, M5, rfl, R5, D5, b5⟩
    have z5 := b5.size
    obtain ⟨q5, k5, rfl⟩ := R5.form
    obtain ⟨n5, hn5⟩ : ∃ n5, n5 = M5.length := ⟨_, rfl⟩
    rw [← hn5] at R5 ⊢
    have N6 := NoteIn.made OK4.out b5 R5 b4
    have h36 : Below w3.heap.size w3 (w5.alloc (.cells #[.slice p4 lb c4, .slice q5 n5 k5] 29)) := (b4.trans (b5.mono z4)).alloc (by omega) _
    have M6 := N3.below h36
    have g6 := g3.trans (h36.mono z3)
    have D6 : Hid (M5.map Sg.data = M.map Sg.made) := D5
    have L6 : n5 ≤ 1024 := by have := congrArg List.length D5; simp only [List.length_map] at this; have := HT.out.1; omega
    clear OK4 R5 D5 b4 b5 hn5 N3 g3 h36
    go_wp2_with fail
    generalize hw6 : w5.alloc (.cells #[.slice p4 lb c4, .slice q5 n5 k5] 29) = w6 at N6 M6 g6 ⊢
    clear hw6 z4 z3
    generalize w5.heap.size = ob at N6 z5 ⊢
    clear z5
    have z6 := g6.size
    -- err := n.Merge(o)
    refine (merge_refuse nb ob la c1 lb c4 p1 p4 xs ys w6 M6.cell0 N6.cell0 lx ly M6.txt.bytes N6.txt.bytes NE.out).mono ?_
    rintro e w7 ⟨⟨ex, rfl⟩, b7⟩
    have M7 := M6.below b7
    have N7 := N6.below b7
    have g7 := g6.trans (b7.mono z6)
    have z7 := g7.size
    clear M6 N6 g6 z6 b7
    have cn0 := M7.cell0
    have co0 := N7.cell0
    have e1 : Calls Yba.prog 8 #[.slice p1 la c1, .slice pa la ca] w7 fun e w' => e = .returned (.bool true) ∧ w' = w7 := by
      have h := equal_any p1 pa la c1 la ca xs xs w7 lx lx M7.txt.bytes (bytesIn_below BX.out g7)
      simpa using h
    have e2 : Calls Yba.prog 8 #[.slice p4 lb c4, .slice pb lb cb] w7 fun e w' => e = .returned (.bool true) ∧ w' = w7 := by
      have h := equal_any p4 pb lb c4 lb cb ys ys w7 ly ly N7.txt.bytes (bytesIn_below BY.out g7)
      simpa using h
    go_wp2_with fail
    refine e1.mono ?_
    rintro e w7 ⟨rfl, rfl⟩
    go_wp2_with fail
    refine e2.mono ?_
    rintro e w7 ⟨rfl, rfl⟩
    clear cn0 co0 e1 e2 BX BY NE
    have ST : Hid (NoteIn w7 nb p1 la c1 q2 n2 k2 xs M2 ∧ NoteIn w7 ob p4 lb c4 q5 n5 k5 ys M5 ∧ Below w'.heap.size w' w7) := ⟨M7, N7, g7⟩
    clear M7 N7 g7
    have step : ∀ W W', (NoteIn W nb p1 la c1 q2 n2 k2 xs M2 ∧ NoteIn W ob p4 lb c4 q5 n5 k5 ys M5 ∧ Below w'.heap.size w' W) → Below W.heap.size W W' →
        Hid (NoteIn W' nb p1 la c1 q2 n2 k2 xs M2 ∧ NoteIn W' ob p4 lb c4 q5 n5 k5 ys M5 ∧ Below w'.heap.size w' W') ∧ W'.cell? ⟨nb, 1, none⟩ = some (.slice q2 n2 k2) ∧ W'.cell? ⟨ob, 1, none⟩ = some (.slice q5 n5 k5) := fun W W' h hb =>
      ⟨⟨h.1.below hb, h.2.1.below hb, h.2.2.trans (hb.mono h.2.2.size)⟩, (h.1.below hb).cell1, (h.2.1.below hb).cell1⟩
    have STEP : Hid _ := step
    clear step
    have sg : ∀ (a : Option Addr) (n c : Nat) (LL : List Sg) (MM : List Sg) (W : World), n ≤ 1024 → ArgRow w' a n c LL → MM.map Sg.data = LL.map Sg.made → (NoteIn W nb p1 la c1 q2 n2 k2 xs M2 ∧ NoteIn W ob p4 lb c4 q5 n5 k5 ys M5 ∧ Below w'.heap.size w' W) →
        Calls Yba.prog 6 #[.slice a n c] W fun e w'' => ∃ q nn k X, e = .returned (.slice q nn k) ∧ Hid (SigRow w'' 0 (.slice q nn k) X ∧ MM.map Sg.data = X.map Sg.data) ∧
          Hid (NoteIn w'' nb p1 la c1 q2 n2 k2 xs M2 ∧ NoteIn w'' ob p4 lb c4 q5 n5 k5 ys M5 ∧ Below w'.heap.size w' w'') ∧ w''.cell? ⟨nb, 1, none⟩ = some (.slice q2 n2 k2) ∧ w''.cell? ⟨ob, 1, none⟩ = some (.slice q5 n5 k5) := by
      intro a n c LL MM W hn hA hD hS
      refine (sigs_any a n c LL W hn (hA.below hS.2.2)).mono ?_
      rintro e w'' ⟨v, X, rfl, R, D, hb⟩
      obtain ⟨q, k, rfl⟩ := R.form
      exact ⟨q, _, k, X, rfl, ⟨R.mono (Nat.zero_le _), hD.trans D.symm⟩, STEP.out W w'' hS hb⟩
    have s1 := fun W => sg pm lm cm L M2 W hlm HM.out D3.out
    have s2 := fun W => sg pt lt ct M M5 W hlt HT.out D6.out
    clear sg HM HT D3 D6
    have eq : ∀ (v : Value) (MM : List Sg) (q : Option Addr) (nn k : Nat) (X : List Sg) (W : World), MM.length ≤ 1000000 → SigRow W 0 v MM → (SigRow W 0 (.slice q nn k) X ∧ MM.map Sg.data = X.map Sg.data) → (NoteIn W nb p1 la c1 q2 n2 k2 xs M2 ∧ NoteIn W ob p4 lb c4 q5 n5 k5 ys M5 ∧ Below w'.heap.size w' W) →
        Calls Yba.prog 9 #[v, .slice q nn k] W fun e w'' => e = .returned (.bool true) ∧ Hid (NoteIn w'' nb p1 la c1 q2 n2 k2 xs M2 ∧ NoteIn w'' ob p4 lb c4 q5 n5 k5 ys M5 ∧ Below w'.heap.size w' w'') ∧ w''.cell? ⟨nb, 1, none⟩ = some (.slice q2 n2 k2) ∧ w''.cell? ⟨ob, 1, none⟩ = some (.slice q5 n5 k5) := by
      intro v MM q nn k X W hl hR hX hS
      refine (eqall_true 0 v _ MM X W hR hX.1 hX.2 hl).mono ?_
      rintro e w'' ⟨rfl, hb⟩
      exact ⟨rfl, STEP.out W w'' hS hb⟩
    have lM2 : M2.length ≤ 1000000 := by
      obtain ⟨_, _, e⟩ := ST.out.1.row.form
      simp only [Value.slice.injEq] at e
      omega
    have lM5 : M5.length ≤ 1000000 := by
      obtain ⟨_, _, e⟩ := ST.out.2.1.row.form
      simp only [Value.slice.injEq] at e
      omega
    have ST1 := STEP.out w7 (w7.drewN 1) ST.out (belowD (Below.refl _ _) 1)
    have E : Hid _ := eq
    have S1 : Hid _ := s1
    have S2 : Hid _ := s2
    clear eq s1 s2
    have c71 : w7.cell? ⟨nb, 1, none⟩ = some (.slice q2 n2 k2) := ST1.2.1
    have c72 : w7.cell? ⟨ob, 1, none⟩ = some (.slice q5 n5 k5) := ST1.2.2
    have ST2 := ST1.1
    clear ST1
    go_wp2_with fail
    go_region_held3 (fun W => W.cell? ⟨nb, 1, none⟩ = some (.slice q2 n2 k2) ∧ W.cell? ⟨ob, 1, none⟩ = some (.slice q5 n5 k5)) (go_keep)
      (first
        | (go_at_call_of 6 (Value.slice pm lm cm); refine Calls.mono (S1.out _ ST2.out) ?_; rintro e w8 ⟨q8, n8, k8, X8, rfl, R8, T8, a8, b8⟩)
        | (go_at_call_of 9 (Value.slice q2 n2 k2); refine Calls.mono (E.out _ M2 q8 n8 k8 X8 w8 lM2 T8.out.1.row R8.out T8.out) ?_; rintro e w9 ⟨rfl, T9, a9, b9⟩)
        | (go_at_call_of 6 (Value.slice pt lt ct); refine Calls.mono (S2.out _ T9.out) ?_; rintro e w10 ⟨q10, n10, k10, X10, rfl, R10, T10, a10, b10⟩)
        | (go_at_call_of 9 (Value.slice q5 n5 k5); refine Calls.mono (E.out _ M5 q10 n10 k10 X10 w10 lM5 T10.out.2.1.row R10.out T10.out) ?_; rintro e w11 ⟨rfl, T11, a11, b11⟩))
    all_goals go_wp2
    go_ret
    exact ⟨rfl, T11.out.2.2⟩
end Go.Proofs.Ybulkakhw
