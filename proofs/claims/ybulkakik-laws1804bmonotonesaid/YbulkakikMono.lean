/-
  LawS1804BMonotone: its walk.
-/
import Derived.Test.YbulkakikWalkB
namespace Go.Proofs.Ybulkakik
open Go.RowKit

theorem Yba.info23 : (Yba.prog.info? 23).map (fun i => (i.zero, i.size, i.bytes)) = some (some (.float .f64 0), 1, 8) := by kernel_rfl

/-- The running sum. -/
def ps (a : Int) (zs : List Int) : Nat → Int
  | 0 => a
  | k + 1 => ps a zs k + zs.getD k 0
def ds (a : Int) (zs : List Int) (n : Nat) : List Nat := (List.range n).map fun i => Fl.F (ps a zs (i + 1))
theorem ds_get (a : Int) (zs : List Int) (n i : Nat) (h : i < n) : (ds a zs n).getD i 0 = Fl.F (ps a zs (i + 1)) := by
  simp [ds, h]
theorem ps_bd (a : Int) (zs : List Int) (ha : -128 ≤ a ∧ a < 128) (hz : ∀ k, 0 ≤ zs.getD k 0 ∧ zs.getD k 0 < 256) : ∀ k, -128 ≤ ps a zs k ∧ ps a zs k < 128 + 256 * k
  | 0 => ⟨ha.1, by simpa [ps] using ha.2⟩
  | k + 1 => by have := ps_bd a zs ha hz k; have := hz k; simp only [ps]; omega
theorem fits_F (n : Int) (h : n.natAbs < 9007199254740992) : floatToIntVal .f64 (Fl.F n) .i64 = some n := by
  unfold floatToIntVal
  rw [show (FloatKind.f64.decode (Fl.F n)).toInt .zero = some n from Fl.toInt_F n h]
  have h1 : IntKind.i64.min ≤ n := by rw [show IntKind.i64.min = -9223372036854775808 from by decide]; omega
  have h2 : n ≤ IntKind.i64.max := by rw [show IntKind.i64.max = 9223372036854775807 from by decide]; omega
  exact if_pos ⟨h1, h2⟩
theorem leB_F (a b : Int) (ha : a.natAbs < 9007199254740992) (hb : b.natAbs < 9007199254740992) : leB (Fl.F a) (Fl.F b) = decide (a ≤ b) := by
  unfold leB
  rw [show FloatKind.f64.format.order (Fl.F a) (Fl.F b) = some (compare a b) from Fl.order_F a b ha hb]
  rcases Int.lt_trichotomy a b with h | h | h
  · have h3 : a ≤ b := by omega
    simp [compare, compareOfLessAndEq, h, h3]
  · subst h
    simp [compare, compareOfLessAndEq]
  · have h1 : ¬ a < b := by omega
    have h2 : ¬ a = b := by omega
    have h3 : ¬ a ≤ b := by omega
    simp [compare, compareOfLessAndEq, h1, h2, h3]
theorem gtB_F (a b : Int) (ha : a.natAbs < 9007199254740992) (hb : b.natAbs < 9007199254740992) : (FloatKind.f64.format.order (Fl.F a) (Fl.F b) == some .gt) = decide (b < a) := by
  rw [show FloatKind.f64.format.order (Fl.F a) (Fl.F b) = some (compare a b) from Fl.order_F a b ha hb]
  rcases Int.lt_trichotomy a b with h | h | h
  · have h3 : ¬ b < a := by omega
    simp [compare, compareOfLessAndEq, h, h3]
  · subst h
    simp [compare, compareOfLessAndEq]
  · have h1 : ¬ a < b := by omega
    have h2 : ¬ a = b := by omega
    simp [compare, compareOfLessAndEq, h1, h2, h]

theorem pick_mono (a : Int) (zs : List Int) (n : Nat) (ha : -128 ≤ a ∧ a < 128) (hz : ∀ k, 0 ≤ zs.getD k 0 ∧ zs.getD k 0 < 256) (hn : n ≤ 1024) (lo hi : Int) (hl : lo.natAbs < 9007199254740992) (hh : hi.natAbs < 9007199254740992) (hlh : lo ≤ hi) (i j : Nat)
    (hi' : Pick (Fl.F lo) (ds a zs n) n i) (hj : Pick (Fl.F hi) (ds a zs n) n j) : i ≤ j := by
  by_cases h : j < i
  · have h1 := hi'.2.1 j h
    have h2 := hj.2.2 (by have := hi'.1; omega)
    have b := ps_bd a zs ha hz (j + 1)
    rw [ds_get _ _ _ _ hj.1, leB_F _ _ (by assumption) (by have := hj.1; omega)] at h1 h2
    simp at h1 h2
    omega
  · omega
theorem pick_le (a : Int) (zs : List Int) (n : Nat) (ha : -128 ≤ a ∧ a < 128) (hz : ∀ k, 0 ≤ zs.getD k 0 ∧ zs.getD k 0 < 256) (hn : n ≤ 1024) (lo : Int) (hl : lo.natAbs < 9007199254740992) (i : Nat) (hi' : Pick (Fl.F lo) (ds a zs n) n i) :
    (i + 1 < n → lo ≤ ps a zs (i + 1)) ∧ (0 < i → ps a zs i < lo) := by
  constructor
  · intro h
    have h2 := hi'.2.2 h
    have b := ps_bd a zs ha hz (i + 1)
    rw [ds_get _ _ _ _ hi'.1, leB_F _ _ hl (by omega)] at h2
    simpa using h2
  · intro h
    have h2 := hi'.2.1 (i - 1) (by omega)
    have hn := hi'.1
    have b := ps_bd a zs ha hz i
    rw [ds_get _ _ _ _ (by omega), show i - 1 + 1 = i by omega, leB_F _ _ hl (by omega)] at h2
    simp at h2
    omega

def DayRow (w : World) (b k n : Nat) (a : Int) (zs : List Int) : Prop :=
  ∃ cur, w.heap[b]? = some (.cells cur 23 (0, 0)) ∧ cur.size = n ∧ ∀ i, i < k → cur[i]? = some (.float .f64 (floatOfInt .f64 (ps a zs (i + 1))))
theorem DayRow.below {w w' : World} {b k n : Nat} {a : Int} {zs : List Int} (h : DayRow w b k n a zs) (hb : Below w.heap.size w w') : DayRow w' b k n a zs := by
  obtain ⟨cur, h1, h2, h3⟩ := h
  exact ⟨cur, by rw [hb.block b (heap_lt h1)]; exact h1, h2, h3⟩

theorem mono_facts (a0 : Int) (zs : List Int) (k : Nat) (lo hi : Int) (i j : Nat) (w wr w2 w3 w5 : World) (f : Nat) (ha : -128 ≤ a0 ∧ a0 < 128) (hz : ∀ k, 0 ≤ zs.getD k 0 ∧ zs.getD k 0 < 256) (hn : k ≤ 1024)
    (hlo : -32768 ≤ lo ∧ lo < 32768) (hhi : -32768 ≤ hi ∧ hi < 32768) (hlh : lo ≤ hi) (R : DayRow wr w.heap.size k k a0 zs) (hbel : Below w.heap.size w wr) (hb2 : Below wr.heap.size wr w2)
    (hp1 : Pick (floatOfInt .f64 lo) (ds a0 zs k) k i) (hp2 : Pick (floatOfInt .f64 hi) (ds a0 zs k) k j) (hb3 : Below w2.heap.size w2 w3)
    (hb5 : Below (w3.alloc (.cells #[.string ⟨#[]⟩, .float .f64 f, .float .f64 (Fl.F i)] 28)).heap.size (w3.alloc (.cells #[.string ⟨#[]⟩, .float .f64 f, .float .f64 (Fl.F i)] 28)) w5) :
    Hid (Below w.heap.size w w5) ∧ (w.heap.size < w5.heap.size ∧ w3.heap.size < w5.heap.size) ∧ w5.cell? ⟨w3.heap.size, 2, none⟩ = some (.float .f64 (Fl.F i)) ∧ (FloatKind.f64.format.order (Fl.F i) (Fl.F j) == some .gt) = false
      ∧ (∀ w, (convert 23 3 (.float .f64 (Fl.F i))).run Yba.prog w = .ok (.int .i64 i) w) ∧ ((((i : Int) < (k : Int) - 1) ∧ w5.cell? ⟨w.heap.size, i, none⟩ = some (.float .f64 (floatOfInt .f64 (ps a0 zs (i + 1)))) ∧ (FloatKind.f64.format.order (floatOfInt .f64 lo) (floatOfInt .f64 (ps a0 zs (i + 1))) == some .lt || FloatKind.f64.format.order (floatOfInt .f64 lo) (floatOfInt .f64 (ps a0 zs (i + 1))) == some .eq) = true) ∨ ¬ ((i : Int) < (k : Int) - 1))
      ∧ (∀ i', i = i' + 1 → w5.cell? ⟨w.heap.size, i', none⟩ = some (.float .f64 (floatOfInt .f64 (ps a0 zs i))) ∧ (FloatKind.f64.format.order (floatOfInt .f64 lo) (floatOfInt .f64 (ps a0 zs i)) == some .gt) = true) := by
  have B3 : Below w3.heap.size w3 w5 := ((Below.refl _ w3).alloc (Nat.le_refl _) _).trans (hb5.mono (by simp))
  have hs0 := heap_lt R.choose_spec.1
  have hs1 := hb2.size
  have hs2 := hb3.size
  have hs3 := hb5.size
  simp only [World.size_alloc] at hs3
  have R5 : DayRow w5 w.heap.size k k a0 zs := ((R.below hb2).below hb3).below B3
  have hij := pick_mono a0 zs k ha hz hn lo hi (by omega) (by omega) hlh i j hp1 hp2
  have hpl := pick_le a0 zs k ha hz hn lo (by omega) i hp1
  have hik := hp1.1
  have hjk := hp2.1
  obtain ⟨cur, q1, q2, q3⟩ := R5
  refine ⟨((hbel.trans (hb2.mono (by omega))).trans (hb3.mono (by omega))).trans (B3.mono (by omega)), ⟨by omega, by omega⟩, ?_, ?_, ?_, ?_, ?_⟩
  · exact cell_of_block (t := 28) (fr := (0, 0)) (by rw [hb5.block _ (by simp)]; exact heap_alloc_new _ _) rfl
  · rw [gtB_F _ _ (by omega) (by omega)]; simp; omega
  · exact fun w => run_convert_float_int w 23 3 .f64 .i64 _ _ (by rw [Yba.underlying23]; rfl) Yba.underlying3 (fits_F i (by omega))
  · by_cases h : i + 1 < k
    · have b := ps_bd a0 zs ha hz (i + 1)
      exact .inl ⟨by omega, cell_of_block q1 (q3 i hik), (leB_F lo (ps a0 zs (i + 1)) (by omega) (by omega)).trans (by simpa using hpl.1 h)⟩
    · exact .inr (by omega)
  · rintro i' rfl
    have b := ps_bd a0 zs ha hz (i' + 1)
    exact ⟨cell_of_block q1 (q3 i' (by omega)), (gtB_F lo (ps a0 zs (i' + 1)) (by omega) (by omega)).trans (by simpa using hpl.2 (by omega))⟩

set_option maxHeartbeats 1000000 in
set_option maxRecDepth 100000 in
theorem mono_walk (a0 t1 t2 : Int) (x : Addr) (n c : Nat) (zs : List Int) (w : World) (ha : -128 ≤ a0 ∧ a0 < 128) (h1 : -32768 ≤ t1 ∧ t1 < 32768) (h2 : -32768 ≤ t2 ∧ t2 < 32768)
    (hz : ∀ k, 0 ≤ zs.getD k 0 ∧ zs.getD k 0 < 256) (hn : n ≤ 1024) (hpos : 0 < n) (hc : ∀ i, i < n → w.cell? (x.add i) = some (.int .u8 (zs.getD i 0))) :
    Calls Yba.prog 4 #[.int .i8 a0, .slice (some x) n c, .int .i16 t1, .int .i16 t2] w fun e w' => e = .returned (.bool true) ∧ Below w.heap.size w w' := by
  obtain ⟨i0, hi, hz0, hz1, hz2⟩ := info_parts Yba.info23
  have hblk : x.block < w.heap.size := below_lt (hc 0 hpos)
  have HC : Hid _ := hc
  have HZ : Hid _ := hz
  have HA : Hid _ := ha
  clear hc hz ha
  have d1 : (decide ((n : Int) = 0)) = false := by simp; omega
  have d2 : (decide ((1024 : Int) < (n : Int))) = false := by simp; omega
  go_enter Yba.func4, Yba.ntmps4
  go_wp2_with (at_make; refine wpList_make_full _ rfl _ _ 22 rfl w.heap.size 23 i0 _ 1 Yba.underlying22 hi hz0 hz1 .i64 .i64 _ _ n rfl rfl rfl rfl (by rw [hz2]; omega) (by unfold maxLen; omega) (Nat.le_refl _) ?_; intro w1 hown1 hgrow1)
  have R1 : DayRow w1 w.heap.size 0 n a0 zs := by
    rcases hown1.2 with ⟨h, _⟩ | ⟨g, cap, cur, h, h1, h2, h3, h4, h5, _⟩
    · simp at h
    · simp only [Value.slice.injEq, Option.some.injEq, Addr.mk.injEq] at h
      obtain ⟨⟨rfl, _⟩, _, rfl⟩ := h
      exact ⟨cur, h2, by omega, fun i hi => by omega⟩
  have hbel1 : Below w.heap.size w w1 := (Below.refl _ _).grown hgrow1 (Nat.le_refl _) (fun k hk => by cases hk)
  clear hown1 hgrow1
  go_wp2_with fail
  go_loopg [10, 11] n (fun kx s10 s11 wr => ∃ (k : Nat), k ≤ n ∧ kx = n - k ∧ s10 = .float .f64 (floatOfInt .f64 (ps a0 zs k)) ∧ s11 = .int .i64 k ∧ DayRow wr w.heap.size k n a0 zs ∧ Below w.heap.size w wr)
  case atStart => exact ⟨0, Nat.zero_le _, rfl, rfl, rfl, R1, hbel1⟩
  case round =>
    obtain ⟨k, hk, hkx, rfl, rfl, R, hbel⟩ := hrel
    by_cases hlt : k < n
    · have hsz := hbel.size
      have c1 := HC.out k hlt
      rw [← hbel.cell (p := x.add k) (by unfold Addr.add; split <;> exact hblk)] at c1
      obtain ⟨cur, hb, hcs, hrs⟩ := R
      have hf0 : wr.frozen? ⟨w.heap.size, k, none⟩ = false := free_of_block hb
      obtain ⟨x0, hx0⟩ : ∃ x, cur[k]? = some x := ⟨_, Array.getElem?_eq_getElem (by omega)⟩
      have hg0 : wr.cell? ⟨w.heap.size, k, none⟩ = some x0 := cell_of_block hb hx0
      have hb3 := fun u => block_setCell (i := k) hb u
      have HB3 : Hid _ := hb3
      have hki : (0 : Int) ≤ (k : Int) := by omega
      have hkN : (k : Int) < (n : Int) := by omega
      have HRS : Hid _ := hrs
      have HCS : Hid _ := hcs
      have hzk := HZ.out k
      have hpk := ps_bd a0 zs HA.out HZ.out k
      have hadd : ∀ w, (binOp .add 23 (.float .f64 (floatOfInt .f64 (ps a0 zs k))) (.float .f64 (floatOfInt .f64 (zs.getD k 0)))).run Yba.prog w = .ok (.float .f64 (floatOfInt .f64 (ps a0 zs (k + 1)))) w :=
        fun w => run_float_arith w .add 23 .f64 _ _ _ (Fl.add_F _ _ (by omega) (by omega) (by omega))
      generalize zs.getD k 0 = z at c1 hadd hzk
      generalize hp : ps a0 zs k = pk at hadd hpk
      generalize hp1 : ps a0 zs (k + 1) = pk1 at hadd
      have HP1 : Hid _ := hp1
      clear hrs hcs hx0 hb3 hp hp1
      go_wp2
      go_roundg (n - (k + 1))
      case measure => omega
      case rel =>
        refine ⟨k + 1, by omega, rfl, by rw [HP1.out], by go_num, ⟨_, HB3.out _, by simp [HCS.out], ?_⟩, hbel.setCell (by simp) _⟩
        intro i hi
        have hcs := HCS.out
        by_cases hik : i = k
        · subst hik
          rw [Array.getElem?_setIfInBounds_self_of_lt (by omega), HP1.out]
        · rw [Array.getElem?_setIfInBounds_ne (by omega)]
          exact HRS.out i (by omega)
    · obtain rfl : k = n := by omega
      have hsz := hbel.size
      clear hlt hk hkx HC hblk hbel1 R1 hi hz0 hz1 hz2
      have g0 := gtB_F t1 t2 (by omega) (by omega)
      obtain ⟨lo, hi, hlh, hlo, hhi, hg⟩ : ∃ lo hi : Int, lo ≤ hi ∧ (-32768 ≤ lo ∧ lo < 32768) ∧ (-32768 ≤ hi ∧ hi < 32768) ∧ ((lo = t1 ∧ hi = t2 ∧ (FloatKind.f64.format.order (floatOfInt .f64 t1) (floatOfInt .f64 t2) == some .gt) = false) ∨ (lo = t2 ∧ hi = t1 ∧ (FloatKind.f64.format.order (floatOfInt .f64 t1) (floatOfInt .f64 t2) == some .gt) = true)) := by
        by_cases h : t2 < t1
        · exact ⟨t2, t1, by omega, h2, h1, .inr ⟨rfl, rfl, g0.trans (by simpa using h)⟩⟩
        · exact ⟨t1, t2, by omega, h1, h2, .inl ⟨rfl, rfl, g0.trans (by simpa using h)⟩⟩
      clear g0 h1 h2
      have HL : Hid _ := hlh
      clear hlh
      rcases hg with ⟨rfl, rfl, hg⟩ | ⟨rfl, rfl, hg⟩
      all_goals
        go_wp2_with fail
        refine (build_any w.heap.size 0 k k (ds a0 zs k) wr hn hpos (by simp [ds]) (fun i hi => by obtain ⟨cur, q1, q2, q3⟩ := R; rw [ds_get _ _ _ _ hi]; exact cell_of_block q1 (by rw [Nat.zero_add]; exact q3 i hi))).mono ?_
        rintro e w2 ⟨rfl, hR, hb2⟩
        go_wp2_with fail
        refine (of_any _ k _ _ w2 hn hpos hR).mono ?_
        rintro e w3 ⟨i, rfl, hp1, hb3⟩
        have hR3 := hR.below hb3
        go_wp2_with fail
        refine (of_any _ k _ _ _ hn hpos (hR3.below ((Below.refl _ _).alloc (Nat.le_refl _) _))).mono ?_
        rintro e w5 ⟨j, rfl, hp2, hb5⟩
        obtain ⟨F1, F2, F3, F4, F5, F6, F7⟩ := mono_facts a0 zs k lo hi i j w wr w2 w3 w5 _ HA.out HZ.out hn hlo hhi HL.out R hbel hb2 hp1 hp2 hb3 hb5
        have hik := hp1.1
        clear R hbel hb2 hR hp1 hp2 hb3 hR3 hb5 HL hlo hhi hsz
        generalize Fl.F (i : Int) = yi at F3 F4 F5 ⊢
        generalize ps a0 zs (i + 1) = p1 at F6
        generalize ps a0 zs i = p0 at F7
        rcases F6 with ⟨F61, F62, F63⟩ | F6
        · by_cases hi0 : i = 0
          · have hi1 : ¬ (0 : Int) < i := by omega
            clear hi0 F7
            go_wp2
            go_ret
            exact ⟨rfl, F1.out.alloc (by omega) _⟩
          · obtain ⟨i', rfl⟩ : ∃ i', i = i' + 1 := ⟨i - 1, by omega⟩
            obtain ⟨F71, F72⟩ := F7 i' rfl
            clear F7
            go_wp2
            go_ret
            exact ⟨rfl, F1.out.alloc (by omega) _⟩
        · by_cases hi0 : i = 0
          · have hi1 : ¬ (0 : Int) < i := by omega
            clear hi0 F7
            go_wp2
            go_ret
            exact ⟨rfl, F1.out.alloc (by omega) _⟩
          · obtain ⟨i', rfl⟩ : ∃ i', i = i' + 1 := ⟨i - 1, by omega⟩
            obtain ⟨F71, F72⟩ := F7 i' rfl
            clear F7
            have F6' : ¬ ((i' : Int) + 1 < (k : Int) - 1) := by omega
            have hi2 : (i' : Int) < (k : Int) := by omega
            clear F6
            go_wp2
            go_ret
            exact ⟨rfl, F1.out.alloc (by omega) _⟩
end Go.Proofs.Ybulkakik
