/-
  LawS1808CWithin: its walk.
-/
import Derived.Test.YbulkakkoWithD
import Derived.BigRegion
namespace Go.Proofs.Ybulkakko
open Go.RowKit
set_option linter.unusedVariables false
attribute [-go_sem] Builtin.append_

set_option maxHeartbeats 40000000 in
set_option maxRecDepth 100000 in
theorem cwithin_walk (nl nr sel : Int) (pr po pt pa : Option Addr) (lr cr lo co lt ct la ca : Nat) (fr fo : Nat → Bool) (ft : Nat → Int) (fa : Nat → Int × Int × Int) (w : World)
    (h1 : 0 ≤ nl ∧ nl < 256) (h2 : 0 ≤ nr ∧ nr < 256) (h3 : 0 ≤ sel ∧ sel < 256) (hr : ArgB w pr lr fr) (ho : ArgB w po lo fo) (ht : ArgI w pt lt ft) (ha : ArgA w pa la fa) (hla : la ≤ 1024) (hlr : lr ≤ maxLen) (hlo : lo ≤ maxLen) (hlt : lt ≤ maxLen) :
    Calls Yba.prog 7 #[.int .u8 nl, .int .u8 nr, .int .u8 sel, .slice pr lr cr, .slice po lo co, .slice pt lt ct, .slice pa la ca] w fun e w' => e = .returned (.bool true) ∧ Below w.heap.size w w' := by
  unfold maxLen at hlr hlo hlt
  obtain ⟨i53, hi53, hz53, hs53, hb53⟩ := info_parts Yba.info53
  obtain ⟨i54, hi54, hz54, hs54, hb54⟩ := info_parts Yba.info54
  obtain ⟨i4, hi4, hz4, hs4, hb4⟩ := info_parts Yba.info4
  obtain ⟨i74, hi74, hz74, hs74, hb74⟩ := info_parts Yba.info74
  obtain ⟨i82, hi82, hz82, hs82, hb82⟩ := info_parts Yba.info82
  obtain ⟨i81, hi81, hz81, hs81, hb81⟩ := info_parts Yba.info81
  obtain ⟨L, hL⟩ : ∃ L : Nat, nl % 4 + 1 = (L : Int) := ⟨(nl % 4 + 1).toNat, by omega⟩
  obtain ⟨R, hR⟩ : ∃ R : Nat, nr % 4 + 1 = (R : Int) := ⟨(nr % 4 + 1).toNat, by omega⟩
  have L1 : 1 ≤ L ∧ L ≤ 4 := by omega
  have R1 : 1 ≤ R ∧ R ≤ 4 := by omega
  have HR : Hid _ := hr
  have HO : Hid _ := ho
  have HT : Hid _ := ht
  have HA : Hid _ := ha
  clear hr ho ht ha
  have d1 : decide ((1024 : Int) < (la : Int)) = false := by simp; omega
  go_enter Yba.func7, Yba.ntmps7
  go_wp2_with (at_make; refine wpList_make_full _ rfl _ _ 52 rfl w.heap.size 53 i53 _ 1 Yba.underlying52 hi53 hz53 hs53 .i64 .i64 _ _ L rfl rfl rfl rfl (by rw [hb53]; omega) (by unfold maxLen; omega) (Nat.le_refl _) ?_; intro w1 hown1 hgrow1)
  have P1 : PtrRow w1 53 w.heap.size 0 L (fun _ => 0) := ⟨RowF.made hown1, fun i hi => by omega⟩
  have B1 : Below w.heap.size w w1 := (Below.refl _ _).grown hgrow1 (Nat.le_refl _) (fun k hk => by cases hk)
  clear hown1 hgrow1
  go_wp2_with fail
  go_loopg [19] L (fun kx s19 wr => ∃ (k : Nat) (f : Nat → Nat), k ≤ L ∧ kx = L - k ∧ s19 = .int .i64 k ∧ PtrRow wr 53 w.heap.size k L f ∧ Below w.heap.size w wr)
  case atStart => exact ⟨0, _, Nat.zero_le _, rfl, rfl, P1, B1⟩
  case round =>
    as_aux_lemma =>
    clear P1 B1
    obtain ⟨k, f, hk, hkx, rfl, P, B⟩ := hrel
    by_cases hlt : k < L
    · as_aux_lemma =>
      have hsz := B.size
      have hlb : w.heap.size < wr.heap.size := P.1.lt
      obtain ⟨⟨x, hx⟩, hfz⟩ := P.1.there hlt
      have hki : (k : Int) < (L : Int) := by omega
      go_wp2
      go_roundg (L - (k + 1))
      case measure => omega
      case rel => exact ⟨k + 1, _, by omega, rfl, by go_num, P.push hlt rfl, (B.setCell (by simp) _).alloc (by simpa using hsz) _⟩
    obtain rfl : L = k := by omega
    have hsz := B.size
    have hlb : w.heap.size < wr.heap.size := P.1.lt
    clear hlt hk hkx hi53 hz53 hs53 hb53
    generalize wr = wa at *
    clear wr
    go_wp2_with (at_make; refine wpList_make_full _ rfl _ _ 69 rfl wa.heap.size 54 i54 _ 1 Yba.underlying69 hi54 hz54 hs54 .i64 .i64 _ _ R rfl rfl rfl rfl (by rw [hb54]; omega) (by unfold maxLen; omega) (Nat.le_refl _) ?_; intro w1 hown1 hgrow1)
    have Q1 : PtrRow w1 54 wa.heap.size 0 R (fun _ => 0) := ⟨RowF.made hown1, fun i hi => by omega⟩
    have C1 : Below wa.heap.size wa w1 := (Below.refl _ _).grown hgrow1 (Nat.le_refl _) (fun k hk => by cases hk)
    clear hown1 hgrow1
    go_wp2_with fail
    go_loopg [21] R (fun kx s21 wr => ∃ (k : Nat) (f : Nat → Nat), k ≤ R ∧ kx = R - k ∧ s21 = .int .i64 k ∧ PtrRow wr 54 wa.heap.size k R f ∧ Below wa.heap.size wa wr)
    case atStart => exact ⟨0, _, Nat.zero_le _, rfl, rfl, Q1, C1⟩
    case round =>
      as_aux_lemma =>
      clear Q1 C1
      obtain ⟨k, g, hk, hkx, rfl, Q, C⟩ := hrel
      by_cases hlt : k < R
      · as_aux_lemma =>
        have hsz := C.size
        have hlb : wa.heap.size < wr.heap.size := Q.1.lt
        obtain ⟨⟨x, hx⟩, hfz⟩ := Q.1.there hlt
        have hki : (k : Int) < (R : Int) := by omega
        go_wp2
        go_roundg (R - (k + 1))
        case measure => omega
        case rel => exact ⟨k + 1, _, by omega, rfl, by go_num, Q.push hlt rfl, (C.setCell (by simp) _).alloc (by simpa using hsz) _⟩
      obtain rfl : R = k := by omega
      replace P := P.below C
      replace B := B.trans (C.mono hsz)
      have hsb := B.size
      have hlb2 : wa.heap.size < wr.heap.size := Q.1.lt
      clear hlt hk hkx C hi54 hz54 hs54 hb54
      generalize wr = wb at *
      clear wr
      generalize wa.heap.size = RB at *
      go_wp2_with (at_make; refine wpList_make_full _ rfl _ _ 26 rfl wb.heap.size 4 i4 _ 1 Yba.underlying26 hi4 hz4 hs4 .i64 .i64 _ _ L rfl rfl rfl rfl (by rw [hb4]; omega) (by unfold maxLen; omega) (Nat.le_refl _) ?_; intro w1 hown1 hgrow1)
      have W1 : RowF w1 4 wb.heap.size 0 L (fun i => .bool (bAt lo fo i)) := RowF.made hown1
      have C1 : Below wb.heap.size wb w1 := (Below.refl _ _).grown hgrow1 (Nat.le_refl _) (fun k hk => by cases hk)
      clear hown1 hgrow1
      go_wp2_with fail
      go_loopg [23] L (fun kx s23 wr => ∃ (k : Nat), k ≤ L ∧ kx = L - k ∧ s23 = .int .i64 k ∧ RowF wr 4 wb.heap.size k L (fun i => .bool (bAt lo fo i)) ∧ Below wb.heap.size wb wr)
      case atStart => exact ⟨0, Nat.zero_le _, rfl, rfl, W1, C1⟩
      case round =>
        as_aux_lemma =>
        clear W1 C1
        obtain ⟨k, hk, hkx, rfl, WL, C⟩ := hrel
        by_cases hlt : k < L
        · as_aux_lemma =>
          obtain ⟨⟨x, hx⟩, hfz⟩ := WL.there hlt
          have hki : (k : Int) < (L : Int) := by omega
          by_cases hg : k < lo
          · as_aux_lemma =>
            obtain ⟨a, rfl, ha⟩ := HO.out k hg
            have hgi : (k : Int) < (lo : Int) := by omega
            have ha' := Below.old (B.trans (C.mono hsb)) ha
            go_wp2
            go_roundg (L - (k + 1))
            case measure => omega
            case rel => exact ⟨k + 1, by omega, rfl, by go_num, (WL.set hlt _).cong (fun i hi => by by_cases e : i = k <;> simp [e, bAt, hg]), C.setCell (by simp) _⟩
          · as_aux_lemma =>
            have hgi : ¬ (k : Int) < (lo : Int) := by omega
            go_wp2
            go_roundg (L - (k + 1))
            case measure => omega
            case rel => exact ⟨k + 1, by omega, rfl, by go_num, (WL.set hlt _).cong (fun i hi => by by_cases e : i = k <;> simp [e, bAt, hg]), C.setCell (by simp) _⟩
        obtain rfl : L = k := by omega
        replace P := P.below C
        replace Q := Q.below C
        replace B := B.trans (C.mono hsb)
        have hsc := B.size
        have hlb3 : wb.heap.size < wr.heap.size := WL.lt
        clear hlt hk hkx C hsb hsz HO
        generalize wr = wc at *
        clear wr
        generalize wb.heap.size = WB at *
        go_wp2_with (at_make; refine wpList_make_full _ rfl _ _ 26 rfl wc.heap.size 4 i4 _ 1 Yba.underlying26 hi4 hz4 hs4 .i64 .i64 _ _ R rfl rfl rfl rfl (by rw [hb4]; omega) (by unfold maxLen; omega) (Nat.le_refl _) ?_; intro w1 hown1 hgrow1)
        have W1 : RowF w1 4 wc.heap.size 0 R (fun i => .bool (bAt lr fr i)) := RowF.made hown1
        have C1 : Below wc.heap.size wc w1 := (Below.refl _ _).grown hgrow1 (Nat.le_refl _) (fun k hk => by cases hk)
        clear hown1 hgrow1
        go_wp2_with fail
        go_loopg [25] R (fun kx s23 wr => ∃ (k : Nat), k ≤ R ∧ kx = R - k ∧ s23 = .int .i64 k ∧ RowF wr 4 wc.heap.size k R (fun i => .bool (bAt lr fr i)) ∧ Below wc.heap.size wc wr)
        case atStart => exact ⟨0, Nat.zero_le _, rfl, rfl, W1, C1⟩
        case round =>
          as_aux_lemma =>
          clear W1 C1
          obtain ⟨k, hk, hkx, rfl, RC, C⟩ := hrel
          by_cases hlt : k < R
          · as_aux_lemma =>
            obtain ⟨⟨x, hx⟩, hfz⟩ := RC.there hlt
            have hki : (k : Int) < (R : Int) := by omega
            by_cases hg : k < lr
            · as_aux_lemma =>
              obtain ⟨a, rfl, ha⟩ := HR.out k hg
              have hgi : (k : Int) < (lr : Int) := by omega
              have ha' := Below.old (B.trans (C.mono hsc)) ha
              go_wp2
              go_roundg (R - (k + 1))
              case measure => omega
              case rel => exact ⟨k + 1, by omega, rfl, by go_num, (RC.set hlt _).cong (fun i hi => by by_cases e : i = k <;> simp [e, bAt, hg]), C.setCell (by simp) _⟩
            · as_aux_lemma =>
              have hgi : ¬ (k : Int) < (lr : Int) := by omega
              go_wp2
              go_roundg (R - (k + 1))
              case measure => omega
              case rel => exact ⟨k + 1, by omega, rfl, by go_num, (RC.set hlt _).cong (fun i hi => by by_cases e : i = k <;> simp [e, bAt, hg]), C.setCell (by simp) _⟩
          obtain rfl : R = k := by omega
          replace P := P.below C
          replace Q := Q.below C
          replace WL := WL.below C hlb3
          replace B := B.trans (C.mono hsc)
          have hsd := B.size
          have hlb4 : wc.heap.size < wr.heap.size := RC.lt
          clear hlt hk hkx C hsc HR hi4 hz4 hs4 hb4
          generalize wr = wd at *
          clear wr
          generalize wc.heap.size = CB at *
          go_wp2_with (at_make; refine wpList_make_full _ rfl _ _ 50 rfl wd.heap.size 74 i74 _ 1 Yba.underlying50 hi74 hz74 hs74 .i64 .i64 _ _ (L + R) rfl rfl (by go_num) (by go_num) (by rw [hb74]; omega) (by unfold maxLen; omega) (Nat.le_refl _) ?_; intro w1 hown1 hgrow1)
          have W1 : RowF w1 74 wd.heap.size 0 (L + R) (fun i => .int .i8 (tAt lt ft i)) := RowF.made hown1
          have C1 : Below wd.heap.size wd w1 := (Below.refl _ _).grown hgrow1 (Nat.le_refl _) (fun k hk => by cases hk)
          clear hown1 hgrow1
          go_wp2_with fail
          go_loopg [27] (L + R) (fun kx s23 wr => ∃ (k : Nat), k ≤ L + R ∧ kx = L + R - k ∧ s23 = .int .i64 k ∧ RowF wr 74 wd.heap.size k (L + R) (fun i => .int .i8 (tAt lt ft i)) ∧ Below wd.heap.size wd wr)
          case atStart => exact ⟨0, Nat.zero_le _, rfl, rfl, W1, C1⟩
          case round =>
            as_aux_lemma =>
            clear W1 C1
            obtain ⟨k, hk, hkx, rfl, TS, C⟩ := hrel
            by_cases hlt : k < L + R
            · as_aux_lemma =>
              obtain ⟨⟨x, hx⟩, hfz⟩ := TS.there hlt
              have hki : (k : Int) < (L : Int) + (R : Int) := by omega
              have TS1 := TS.set hlt (.int .i8 1)
              obtain ⟨⟨x2, hx2⟩, hfz2⟩ := TS1.there hlt
              have HX : Hid _ := TS1
              clear TS1
              by_cases hg : k < lt
              · as_aux_lemma =>
                obtain ⟨a, rfl, ha⟩ := HT.out k hg
                have hgi : (k : Int) < (lt : Int) := by omega
                have ha' := Below.old (B.trans (C.mono hsd)) ha
                have ha2 : (wr.setCell ⟨wd.heap.size, k, none⟩ (.int .i8 1)).cell? (a.add k) = some (.int .i8 (ft k)) := Below.old (B.trans ((C.setCell (by simp) _).mono hsd)) ha
                by_cases hneg : ft k < 0
                · go_wp2
                  go_roundg (L + R - (k + 1))
                  case measure => omega
                  case rel => exact ⟨k + 1, by omega, rfl, by go_num, (RowF.reset HX.out hlt _).cong (fun i hi => by by_cases e : i = k <;> simp [e, tAt, hg, hneg]), (C.setCell (by simp) _).setCell (by simp) _⟩
                · go_wp2
                  go_roundg (L + R - (k + 1))
                  case measure => omega
                  case rel => exact ⟨k + 1, by omega, rfl, by go_num, RowF.cong HX.out (fun i hi => by by_cases e : i = k <;> simp [e, tAt, hg, hneg]), C.setCell (by simp) _⟩
              · as_aux_lemma =>
                have hgi : ¬ (k : Int) < (lt : Int) := by omega
                go_wp2
                go_roundg (L + R - (k + 1))
                case measure => omega
                case rel => exact ⟨k + 1, by omega, rfl, by go_num, RowF.cong HX.out (fun i hi => by by_cases e : i = k <;> simp [e, tAt, hg]), C.setCell (by simp) _⟩
            obtain rfl : L + R = k := by omega
            replace P := P.below C
            replace Q := Q.below C
            replace WL := WL.below C (by omega)
            replace RC := RC.below C hlb4
            replace B := B.trans (C.mono hsd)
            have hse := B.size
            have hlb5 : wd.heap.size < wr.heap.size := TS.lt
            clear hlt hk hkx C hsd HT hi74 hz74 hs74 hb74
            generalize wr = we at *
            clear wr
            generalize wd.heap.size = TB at *
            go_wp2_with (first
              | (at_make; refine wpList_make_full _ rfl _ _ 75 rfl we.heap.size 82 i82 _ 1 Yba.underlying75 hi82 hz82 hs82 .i64 .i64 _ _ L rfl rfl rfl rfl (by rw [hb82]; omega) (by unfold maxLen; omega) (Nat.le_refl _) ?_; intro w1 hown1 hgrow1)
              | (at_make; refine wpList_make_full _ rfl _ _ 75 rfl w1.heap.size 82 i82 _ 1 Yba.underlying75 hi82 hz82 hs82 .i64 .i64 _ _ R rfl rfl rfl rfl (by rw [hb82]; omega) (by unfold maxLen; omega) (Nat.le_refl _) ?_; intro w2 hown2 hgrow2))
            have R1' : RowF w1 82 we.heap.size L L (fun _ => .slice none 0 0) := RowF.madeAll hown1
            have C1 : Below we.heap.size we w1 := (Below.refl _ _).grown hgrow1 (Nat.le_refl _) (fun k hk => by cases hk)
            have hw1 := R1'.lt
            clear hown1 hgrow1
            have R2' : RowF w2 82 w1.heap.size R R (fun _ => .slice none 0 0) := RowF.madeAll hown2
            have C2 : Below w1.heap.size w1 w2 := (Below.refl _ _).grown hgrow2 (Nat.le_refl _) (fun k hk => by cases hk)
            have G0 : Grd w2 we.heap.size w1.heap.size L R (w1.heap.size + 1) f g (fun _ => .slice none 0 0) (fun _ => []) 0 := Grd.made ⟨hw1, by omega, R2'.lt⟩ (R1'.below C2 hw1) R2'
            have C0 : Below we.heap.size we w2 := C1.trans (C2.mono (by omega))
            clear hown2 hgrow2 R1' R2' C1 C2 hi82 hz82 hs82 hb82
            generalize w1.heap.size = IN at *
            go_loopg [30, 31, 32, 33] la (fun kx s30 s31 s32 s33 wr => ∃ (k : Nat) (V : Nat → Value) (X : Nat → List (Nat × Nat)), k ≤ la ∧ kx = la - k ∧ s30 = .int .i64 k ∧ Grd wr we.heap.size IN L R (IN + 1) f g V X k ∧ Below we.heap.size we wr)
            case atStart => exact ⟨0, _, _, Nat.zero_le _, rfl, rfl, G0, C0⟩
            case round =>
              as_aux_lemma =>
              clear G0 C0
              obtain ⟨k, V, X, hk, hkx, rfl, G, C⟩ := hrel
              by_cases hlt : k < la
              · as_aux_lemma =>
                obtain ⟨ab, ao, rfl, a1, a2, a3, r1, r2, r3⟩ := HA.out k hlt
                have BB := B.trans (C.mono hse)
                have a1 := Below.old BB a1
                have a2 := Below.old BB a2
                have a3 := Below.old BB a3
                have hki : (k : Int) < (la : Int) := by omega
                generalize (fa k).1 = x1 at *
                generalize (fa k).2.1 = x2 at *
                generalize (fa k).2.2 = x3 at *
                obtain ⟨site, hsite⟩ : ∃ s : Nat, x1 % ((L : Int) + (R : Int)) = (s : Int) := ⟨(x1 % ((L : Int) + (R : Int))).toNat, by have := Int.emod_nonneg x1 (b := (L : Int) + (R : Int)) (by omega); omega⟩
                obtain ⟨fi, hfi⟩ : ∃ s : Nat, x2 % (R : Int) = (s : Int) := ⟨(x2 % (R : Int)).toNat, by have := Int.emod_nonneg x2 (b := (R : Int)) (by omega); omega⟩
                obtain ⟨vi, hvi⟩ : ∃ s : Nat, x3 % (L : Int) = (s : Int) := ⟨(x3 % (L : Int)).toNat, by have := Int.emod_nonneg x3 (b := (L : Int)) (by omega); omega⟩
                have hs1 : site < L + R := by have := Int.emod_lt_of_pos x1 (b := (L : Int) + (R : Int)) (by omega); omega
                have hf1 : fi < R := by have := Int.emod_lt_of_pos x2 (b := (R : Int)) (by omega); omega
                have hv1 : vi < L := by have := Int.emod_lt_of_pos x3 (b := (L : Int)) (by omega); omega
                have hsL : L ≤ site ∨ site < L := by omega
                have HG : Hid _ := G
                have HC : Hid _ := C
                have hrg := (Q.below (C)).1.cell hf1
                have hr0 := (Q.below (C)).1.cell (i := 0) (by omega)
                have hlk := (P.below (C)).1.cell hv1
                have hLB : w.heap.size < wr.heap.size := Nat.lt_of_lt_of_le (by omega) C.size
                have hRB : RB < wr.heap.size := Nat.lt_of_lt_of_le (by omega) C.size
                have hsw := C.size
                clear BB
                go_wp2_with fail
                rw [hsite]
                have C4 := C.alloc hsw (.cells #[.int .u8 x1, .int .u8 x2, .int .u8 x3] 77)
                have G4 := G.below ((Below.refl _ wr).alloc (Nat.le_refl _) (.cells #[.int .u8 x1, .int .u8 x2, .int .u8 x3] 77))
                have e1 : (wr.alloc (.cells #[.int .u8 x1, .int .u8 x2, .int .u8 x3] 77)).cell? ⟨wr.heap.size, 1, none⟩ = some (.int .u8 x2) := cell_of_block (heap_alloc_new _ _) rfl
                have e2 : (wr.alloc (.cells #[.int .u8 x1, .int .u8 x2, .int .u8 x3] 77)).cell? ⟨wr.heap.size, 2, none⟩ = some (.int .u8 x3) := cell_of_block (heap_alloc_new _ _) rfl
                replace hrg := Below.old ((Below.refl _ wr).alloc (Nat.le_refl _) (.cells #[.int .u8 x1, .int .u8 x2, .int .u8 x3] 77)) hrg
                replace hr0 := Below.old ((Below.refl _ wr).alloc (Nat.le_refl _) (.cells #[.int .u8 x1, .int .u8 x2, .int .u8 x3] 77)) hr0
                replace hlk := Below.old ((Below.refl _ wr).alloc (Nat.le_refl _) (.cells #[.int .u8 x1, .int .u8 x2, .int .u8 x3] 77)) hlk
                have lz : wr.heap.size < (wr.alloc (.cells #[.int .u8 x1, .int .u8 x2, .int .u8 x3] 77)).heap.size := by simp
                have hfR : (fi : Int) < (R : Int) := by omega
                have hvL : (vi : Int) < (L : Int) := by omega
                have hR0 : (0 : Int) < (R : Int) := by omega
                replace hLB := Nat.lt_trans hLB lz
                replace hRB := Nat.lt_trans hRB lz
                have hwe := C.size
                clear G C HG HC a1 a2 a3 hsw
                generalize wr.alloc (.cells #[.int .u8 x1, .int .u8 x2, .int .u8 x3] 77) = w4 at *
                generalize wr.heap.size = zb at *
                generalize hgf : g fi = gf at *
                generalize hg0 : g 0 = g0 at *
                generalize hfv : f vi = fv at *
                have HGF : Hid _ := hgf
                have HG0 : Hid _ := hg0
                have HFV : Hid _ := hfv
                clear hgf hg0 hfv
                go_big_region
                have G5 : Grd (w4.alloc (.cells #[.pointer (some ⟨gf, 0, none⟩), .pointer (some ⟨g0, 0, none⟩), .pointer (some ⟨fv, 0, none⟩)] 81)).drew we.heap.size IN L R (IN + 1) f g V X k := G4.below ((Below.refl _ w4).alloc (Nat.le_refl _) _).drew
                have C5 : Below we.heap.size we (w4.alloc (.cells #[.pointer (some ⟨gf, 0, none⟩), .pointer (some ⟨g0, 0, none⟩), .pointer (some ⟨fv, 0, none⟩)] 81)).drew := (C4.alloc C4.size _).drew
                have x0 : (w4.alloc (.cells #[.pointer (some ⟨gf, 0, none⟩), .pointer (some ⟨g0, 0, none⟩), .pointer (some ⟨fv, 0, none⟩)] 81)).drew.cell? ⟨w4.heap.size, 0, none⟩ = some (.pointer (some ⟨gf, 0, none⟩)) := cell_of_block (heap_alloc_new w4 _) rfl
                have y0 : (w4.alloc (.cells #[.pointer (some ⟨gf, 0, none⟩), .pointer (some ⟨g0, 0, none⟩), .pointer (some ⟨fv, 0, none⟩)] 81)).drew.cell? ⟨w4.heap.size, 1, none⟩ = some (.pointer (some ⟨g0, 0, none⟩)) := cell_of_block (heap_alloc_new w4 _) rfl
                have z0 : (w4.alloc (.cells #[.pointer (some ⟨gf, 0, none⟩), .pointer (some ⟨g0, 0, none⟩), .pointer (some ⟨fv, 0, none⟩)] 81)).drew.cell? ⟨w4.heap.size, 2, none⟩ = some (.pointer (some ⟨fv, 0, none⟩)) := cell_of_block (heap_alloc_new w4 _) rfl
                clear hrg hr0 hlk e1 e2 C4 G4
                generalize (w4.alloc (.cells #[.pointer (some ⟨gf, 0, none⟩), .pointer (some ⟨g0, 0, none⟩), .pointer (some ⟨fv, 0, none⟩)] 81)).drew = w5 at *
                generalize w4.heap.size = xb at *
                have lxb : xb < w5.heap.size := below_lt x0
                obtain ⟨pv, cv, hV⟩ : ∃ p c, V site = .slice p (X site).length c := by
                  rcases (G5.own site hs1).2 with ⟨e, e0⟩ | ⟨gb, cap, cur, e, _⟩
                  · exact ⟨none, 0, by rw [e, e0]⟩
                  · exact ⟨_, _, e⟩
                have hXk : (X site).length ≤ 1024 := Nat.le_trans (G5.len site hs1) (by omega)
                have hown := G5.own site hs1
                rw [hV] at hown
                have HOwn : Hid (w5.ownsRow (IN + 1) 81 3 (.slice pv (X site).length cv) (X site).length (flatA f g (X site))) := hown
                have HV : Hid _ := hV
                have hD := G5.ai.2.2
                have hae := G5.ai.1
                clear hown
                have ha3 : arc3 f g (fi, vi) = [.pointer (some ⟨gf, 0, none⟩), .pointer (some ⟨g0, 0, none⟩), .pointer (some ⟨fv, 0, none⟩)] := by rw [← HGF.out, ← HG0.out, ← HFV.out]; rfl
                have HA3 : Hid _ := ha3
                clear ha3
                by_cases hlts : site < L
                · as_aux_lemma =>
                  have hli : (site : Int) < (L : Int) := by omega
                  have hcv : w5.cell? ⟨we.heap.size, site, none⟩ = some (.slice pv (X site).length cv) := by rw [← hV]; exact G5.rowA.cell hlts
                  have hcv' : ∀ o, (w5.alloc o).cell? ⟨we.heap.size, site, none⟩ = some (.slice pv (X site).length cv) := fun o => Below.old ((Below.refl _ w5).alloc (Nat.le_refl _) o) hcv
                  have HP := fun w6 g3 cap3 => G5.push (w3 := w6) (Below.refl _ _) site hs1 fi vi hf1 hv1 (.cells #[.pointer (some ⟨gf, 0, none⟩), .pointer (some ⟨g0, 0, none⟩), .pointer (some ⟨fv, 0, none⟩)] 81) g3 cap3
                  rw [hV] at HP
                  have HP2 : Hid _ := HP
                  clear HP hV
                  go_wp2_with fail
                  obtain ⟨g3, cap3, w6, hrun, hown3, hgrow3, hat3, hlt3⟩ := run_append_lies (P := Yba.prog) (w5.alloc (.cells #[.pointer (some ⟨gf, 0, none⟩), .pointer (some ⟨g0, 0, none⟩), .pointer (some ⟨fv, 0, none⟩)] 81)).drew 82 82 (IN + 1) 81 i81 _ 3 24 Yba.underlying82 hi81 hz81 hs81 hb81 rfl (by omega) (.slice pv (X site).length cv) (X site).length (flatA f g (X site)) (HOwn.out.alloc _) ⟨w5.heap.size, 0, none⟩ 1 1 [.pointer (some ⟨gf, 0, none⟩), .pointer (some ⟨g0, 0, none⟩), .pointer (some ⟨fv, 0, none⟩)] (by rfl) (World.news_of_block (cs := #[.pointer (some ⟨gf, 0, none⟩), .pointer (some ⟨g0, 0, none⟩), .pointer (some ⟨fv, 0, none⟩)]) (t := 81) (fr := (0, 0)) (heap_alloc_new w5 _)) (by simp [Value.oneCell']) (by omega) (by unfold maxLen; omega) (by omega) (by show _ ≤ (w5.alloc _).heap.size; simp only [World.size_alloc]; omega) (w5.heap.size + 1) (by show (w5.alloc _).heap.size = _; simp only [World.size_alloc])
                  obtain ⟨G6, _, z6, c6⟩ := HP2.out w6 g3 cap3 ⟨hgrow3.os, hgrow3.tape, hgrow3.output, hgrow3.size, hgrow3.block⟩ (by rw [HA3.out]; exact hown3) hat3 we.heap.size site (.inl ⟨hlts, rfl, rfl⟩)
                  have C6 : Below we.heap.size we (w6.setCell ⟨we.heap.size, site, none⟩ (.slice (some ⟨g3, 0, none⟩) ((X site).length + 1) cap3)) := Below.setCell (Below.grown (C5.alloc C5.size _) ⟨hgrow3.os, hgrow3.tape, hgrow3.output, hgrow3.size, hgrow3.block⟩ (by have := C5.size; simp only [World.size_alloc]; omega) (fun b hb => by have := (own_ge HOwn.out hb).1; omega)) (by first | exact Nat.le_refl _ | (show _ ≤ IN; omega)) _
                  have HG6 : Hid _ := G6
                  have HC6 : Hid _ := C6
                  clear hown3 hgrow3 hat3 hlt3 G6 C6
                  go_big_region
                  clear HP2 HOwn G5 C5 x0 y0 z0 hcv hcv' z6 c6 HV HA3 HGF HG0 HFV hrun
                  go_wp2
                  go_roundg (la - (k + 1))
                  case measure => omega
                  case rel => exact ⟨k + 1, _, _, by omega, rfl, by go_num, HG6.out, HC6.out⟩
                · as_aux_lemma =>
                  obtain ⟨so, hso⟩ : ∃ so, site = L + so := ⟨site - L, by omega⟩
                  have hli : ¬ (site : Int) < (L : Int) := by omega
                  have hsub : (site : Int) - (L : Int) = (so : Int) := by omega
                  have hsoR : (so : Int) < (R : Int) := by omega
                  have hwr : IntKind.i64.wrap (so : Int) = (so : Int) := Go.wrap_small so (by omega) (by omega)
                  have HSO : Hid _ := hso
                  have hcv : w5.cell? ⟨IN, so, none⟩ = some (.slice pv (X site).length cv) := by rw [← hV, hso]; exact G5.rowI.cell (i := so) (by omega)
                  have hcv' : ∀ o, (w5.alloc o).cell? ⟨IN, so, none⟩ = some (.slice pv (X site).length cv) := fun o => Below.old ((Below.refl _ w5).alloc (Nat.le_refl _) o) hcv
                  have HP := fun w6 g3 cap3 => G5.push (w3 := w6) (Below.refl _ _) site hs1 fi vi hf1 hv1 (.cells #[.pointer (some ⟨gf, 0, none⟩), .pointer (some ⟨g0, 0, none⟩), .pointer (some ⟨fv, 0, none⟩)] 81) g3 cap3
                  rw [hV] at HP
                  have HP2 : Hid _ := HP
                  clear HP hV hso
                  go_wp2_with fail
                  obtain ⟨g3, cap3, w6, hrun, hown3, hgrow3, hat3, hlt3⟩ := run_append_lies (P := Yba.prog) (w5.alloc (.cells #[.pointer (some ⟨gf, 0, none⟩), .pointer (some ⟨g0, 0, none⟩), .pointer (some ⟨fv, 0, none⟩)] 81)).drew 82 82 (IN + 1) 81 i81 _ 3 24 Yba.underlying82 hi81 hz81 hs81 hb81 rfl (by omega) (.slice pv (X site).length cv) (X site).length (flatA f g (X site)) (HOwn.out.alloc _) ⟨w5.heap.size, 0, none⟩ 1 1 [.pointer (some ⟨gf, 0, none⟩), .pointer (some ⟨g0, 0, none⟩), .pointer (some ⟨fv, 0, none⟩)] (by rfl) (World.news_of_block (cs := #[.pointer (some ⟨gf, 0, none⟩), .pointer (some ⟨g0, 0, none⟩), .pointer (some ⟨fv, 0, none⟩)]) (t := 81) (fr := (0, 0)) (heap_alloc_new w5 _)) (by simp [Value.oneCell']) (by omega) (by unfold maxLen; omega) (by omega) (by show _ ≤ (w5.alloc _).heap.size; simp only [World.size_alloc]; omega) (w5.heap.size + 1) (by show (w5.alloc _).heap.size = _; simp only [World.size_alloc])
                  obtain ⟨G6, _, z6, c6⟩ := HP2.out w6 g3 cap3 ⟨hgrow3.os, hgrow3.tape, hgrow3.output, hgrow3.size, hgrow3.block⟩ (by rw [HA3.out]; exact hown3) hat3 IN so (.inr ⟨by omega, rfl, HSO.out⟩)
                  have C6 : Below we.heap.size we (w6.setCell ⟨IN, so, none⟩ (.slice (some ⟨g3, 0, none⟩) ((X site).length + 1) cap3)) := Below.setCell (Below.grown (C5.alloc C5.size _) ⟨hgrow3.os, hgrow3.tape, hgrow3.output, hgrow3.size, hgrow3.block⟩ (by have := C5.size; simp only [World.size_alloc]; omega) (fun b hb => by have := (own_ge HOwn.out hb).1; omega)) (by first | exact Nat.le_refl _ | (show _ ≤ IN; omega)) _
                  have HG6 : Hid _ := G6
                  have HC6 : Hid _ := C6
                  clear hown3 hgrow3 hat3 hlt3 G6 C6
                  go_big_region
                  clear HP2 HOwn G5 C5 x0 y0 z0 hcv hcv' z6 c6 HV HA3 HGF HG0 HFV hrun
                  go_wp2
                  go_roundg (la - (k + 1))
                  case measure => omega
                  case rel => exact ⟨k + 1, _, _, by omega, rfl, by go_num, HG6.out, HC6.out⟩
              obtain rfl : la = k := by omega
              replace P := P.below C
              replace Q := Q.below C
              replace WL := WL.below C (by omega)
              replace RC := RC.below C (by omega)
              replace TS := TS.below C hlb5
              replace B := B.trans (C.mono hse)
              have hsf := B.size
              clear hlt hk hkx C HA
              generalize wr = wf at *
              clear wr
              have hai := G.ai
              generalize we.heap.size = AC at *
              obtain ⟨site, hsite⟩ : ∃ s : Nat, sel % ((L : Int) + (R : Int)) = (s : Int) := ⟨(sel % ((L : Int) + (R : Int))).toNat, by have := Int.emod_nonneg sel (b := (L : Int) + (R : Int)) (by omega); omega⟩
              have hs1 : site < L + R := by have := Int.emod_lt_of_pos sel (b := (L : Int) + (R : Int)) (by omega); omega
              have hsite2 : Int.tmod sel ((L : Int) + (R : Int)) = (site : Int) := by rw [Int.tmod_eq_emod_of_nonneg h3.1]; exact hsite
              by_cases hlts : site < L
              · as_aux_lemma =>
                have hli : (site : Int) < (L : Int) := by omega
                have hac := G.rowA.cell hlts
                obtain ⟨pv, cv, hV⟩ : ∃ p c, V site = .slice p (X site).length c := by
                  rcases (G.own site hs1).2 with ⟨e, e0⟩ | ⟨gb, cap, cur, e, _⟩
                  · exact ⟨none, 0, by rw [e, e0]⟩
                  · exact ⟨_, _, e⟩
                rw [hV] at hac
                have hac4 := fun o1 o2 o3 o4 => Below.old (((((Below.refl _ wf).alloc (Nat.le_refl _) o1).alloc (by simp) o2).alloc (by simp; omega) o3).alloc (by simp; omega) o4) hac
                have HV : Hid _ := hV
                clear hV
                go_wp2_with fail
                generalize hw4 : World.alloc (World.alloc (World.alloc (World.alloc wf _) _) _) _ = wg
                obtain ⟨LD, bg, Pg, Qg⟩ := laid_of (rc := bAt lr fr) (wl := bAt lo fo) (ts := tAt lt ft) G P Q WL RC TS (tAt_or lt ft) hw4
                have hA := (G.arcs P Q site hs1).below bg
                rw [HV.out] at hA
                have hlen : (X site).length ≤ 1024 := Nat.le_trans (G.len site hs1) hla
                replace B := B.trans (bg.mono hsf)
                have hts := LD.tss site hs1
                clear hw4 hac4 hac G P Q WL RC TS Pg Qg bg HV
                generalize wf.heap.size + 1 + 1 + 1 = tb at *
                generalize wf.heap.size + 1 + 1 = gb at *
                generalize wf.heap.size + 1 = sb at *
                obtain ⟨pv', cv', hVe, hA2⟩ := hA
                simp only [Value.slice.injEq] at hVe
                obtain ⟨rfl, _, rfl⟩ := hVe
                have hwi := within_A site wg LD L1.2 R1.2 hlts hlen
                have HLD : Hid _ := LD
                have HA2 : Hid _ := hA2
                have hts1 := hts.1
                have hsn : (site : Int) < (L : Int) + (R : Int) := by omega
                clear LD hA2 hts
                generalize X site = l at *
                go_loop [37, 38, 40] (fun s37 s38 s40 => ∃ (k : Nat), k ≤ l.length ∧ s37 = .bool false ∧ s38 = .int .i64 l.length ∧ s40 = .int .i64 k ∧ (∀ j, j < k → okA (bAt lr fr) l j = false)) (fun _ _ s40 => l.length - (intOf s40).toNat)
                case atStart => exact ⟨0, Nat.zero_le _, rfl, rfl, rfl, fun j hj => by omega⟩
                case round =>
                  as_aux_lemma =>
                  obtain ⟨k, hk, rfl, rfl, rfl, hno⟩ := hrel
                  by_cases hlt : k < l.length
                  · as_aux_lemma =>
                    obtain ⟨gg, rfl, hcs⟩ := HA2.out (by omega)
                    obtain ⟨fb, x, vb, a1, a2, a3, a4, a5, a6, a7⟩ := hcs k hlt
                    have hrc := HLD.out.rcs _ a6
                    have hki : (k : Int) < (l.length : Int) := by omega
                    have hfi : (((l.getD k (0, 0)).1 : Nat) : Int) < (R : Int) := by omega
                    have hok : okA (bAt lr fr) l k = bAt lr fr (l.getD k (0, 0)).1 := rfl
                    have HN : Hid _ := hno
                    generalize (l.getD k (0, 0)).1 = fi at *
                    generalize hr : bAt lr fr fi = r at *
                    have HO : Hid _ := hok
                    clear hcs hno a5 a7 hok hr
                    cases r
                    · go_wp2_with fail
                      go_round
                      case measure => simp [intOf]; omega
                      case rel =>
                        refine ⟨k + 1, by omega, rfl, rfl, by go_num, fun j hj => ?_⟩
                        by_cases hjk : j = k
                        · subst hjk; exact HO.out
                        · exact HN.out j (by omega)
                    · have HSC : Hid (Scan (okA (bAt lr fr) l) l.length (decide (0 < tAt lt ft site)) (decide (0 < tAt lt ft site)) (k + 1)) := .inl ⟨k, hlt, HO.out, HN.out, rfl, rfl⟩
                      generalize hgd : decide (0 < tAt lt ft site) = gd at *
                      go_wp2_with fail
                      refine hwi.mono ?_
                      rintro e w7 ⟨ok, kk, rfl, hS, hb7⟩
                      obtain ⟨rfl, rfl⟩ := hS.one HSC.out
                      go_wp2
                      go_ret
                      exact ⟨rfl, B.trans (hb7.mono B.size)⟩
                  · as_aux_lemma =>
                    obtain rfl : k = l.length := by omega
                    have HSC : Hid (Scan (okA (bAt lr fr) l) l.length (decide (0 < tAt lt ft site)) false l.length) := .inr ⟨hno, rfl, rfl⟩
                    go_wp2_with fail
                    refine hwi.mono ?_
                    rintro e w7 ⟨ok, kk, rfl, hS, hb7⟩
                    obtain ⟨rfl, rfl⟩ := hS.one HSC.out
                    go_wp2
                    go_ret
                    exact ⟨rfl, B.trans (hb7.mono B.size)⟩
              · as_aux_lemma =>
                obtain ⟨so, hso⟩ : ∃ so, site = L + so := ⟨site - L, by omega⟩
                subst hso
                have hsoR : so < R := by omega
                have hli : ¬ ((L : Int) + (so : Int) < (L : Int)) := by omega
                have hsub : (L : Int) + (so : Int) - (L : Int) = (so : Int) := by omega
                have hsoI : (so : Int) < (R : Int) := by omega
                have hsite3 : Int.tmod sel ((L : Int) + (R : Int)) = (L : Int) + (so : Int) := by rw [hsite2]; omega
                have hac : wf.cell? ⟨IN, so, none⟩ = some (V (L + so)) := G.rowI.cell hsoR
                obtain ⟨pv, cv, hV⟩ : ∃ p c, V (L + so) = .slice p (X (L + so)).length c := by
                  rcases (G.own (L + so) hs1).2 with ⟨e, e0⟩ | ⟨gb, cap, cur, e, _⟩
                  · exact ⟨none, 0, by rw [e, e0]⟩
                  · exact ⟨_, _, e⟩
                rw [hV] at hac
                have hac4 := fun o1 o2 o3 o4 => Below.old (((((Below.refl _ wf).alloc (Nat.le_refl _) o1).alloc (by simp) o2).alloc (by simp; omega) o3).alloc (by simp; omega) o4) hac
                have HV : Hid _ := hV
                clear hV hsite hsite2
                go_wp2_with fail
                generalize hw4 : World.alloc (World.alloc (World.alloc (World.alloc wf _) _) _) _ = wg
                obtain ⟨LD, bg, Pg, Qg⟩ := laid_of (rc := bAt lr fr) (wl := bAt lo fo) (ts := tAt lt ft) G P Q WL RC TS (tAt_or lt ft) hw4
                have hA := (G.arcs P Q (L + so) hs1).below bg
                rw [HV.out] at hA
                have hlen : (X (L + so)).length ≤ 1024 := Nat.le_trans (G.len (L + so) hs1) hla
                replace B := B.trans (bg.mono hsf)
                have hts := LD.tss (L + so) hs1
                clear hw4 hac4 hac G P Q WL RC TS Pg Qg bg HV
                generalize wf.heap.size + 1 + 1 + 1 = tb at *
                generalize wf.heap.size + 1 + 1 = gb at *
                generalize wf.heap.size + 1 = sb at *
                obtain ⟨pv', cv', hVe, hA2⟩ := hA
                simp only [Value.slice.injEq] at hVe
                obtain ⟨rfl, _, rfl⟩ := hVe
                have hwi := within_I so wg LD L1.2 R1.2 hsoR hlen
                have HLD : Hid _ := LD
                have HA2 : Hid _ := hA2
                have hts1 := hts.1
                have hsn : (so : Int) < (R : Int) := by omega
                clear LD hA2 hts
                generalize X (L + so) = l at *
                go_loop [37, 38, 42, 43] (fun s37 s38 s42 s43 => ∃ (k : Nat), k ≤ l.length ∧ s37 = .bool false ∧ s38 = .int .i64 l.length ∧ s42 = .int .i64 k ∧ (∀ j, j < k → okI (bAt lr fr) (bAt lo fo) (tAt lt ft) l j = false)) (fun _ _ s42 _ => l.length - (intOf s42).toNat)
                case atStart => exact ⟨0, Nat.zero_le _, rfl, rfl, rfl, fun j hj => by omega⟩
                case round =>
                  as_aux_lemma =>
                  obtain ⟨k, hk, rfl, rfl, rfl, hno⟩ := hrel
                  by_cases hlt : k < l.length
                  · as_aux_lemma =>
                    obtain ⟨gg, rfl, hcs⟩ := HA2.out (by omega)
                    obtain ⟨fb, x, vb, a1, a2, a3, a4, a5, a6, a7⟩ := hcs k hlt
                    have hrc := HLD.out.rcs _ a6
                    have hwl := HLD.out.wls _ a7
                    have hps := HLD.out.pass (Below.refl _ _) (l.getD k (0, 0)).2 (by omega) (by omega)
                    have hki : (k : Int) < (l.length : Int) := by omega
                    have hfi : (((l.getD k (0, 0)).1 : Nat) : Int) < (R : Int) := by omega
                    have hvi : (((l.getD k (0, 0)).2 : Nat) : Int) < (L : Int) := by omega
                    have hok : okI (bAt lr fr) (bAt lo fo) (tAt lt ft) l k = (bAt lr fr (l.getD k (0, 0)).1 && (bAt lo fo (l.getD k (0, 0)).2 && decide (0 < tAt lt ft (l.getD k (0, 0)).2))) := rfl
                    have HN : Hid _ := hno
                    generalize (l.getD k (0, 0)).1 = fi at *
                    generalize (l.getD k (0, 0)).2 = vi at *
                    generalize hr : bAt lr fr fi = r at *
                    generalize hr2 : bAt lo fo vi = r2 at *
                    generalize hr3 : decide (0 < tAt lt ft vi) = r3 at *
                    have HO : Hid _ := hok
                    clear hcs hno hok hr hr2 hr3
                    cases r
                    · go_wp2_with (go_at_call 15; refine hps.mono ?_; rintro e w' ⟨rfl, rfl⟩)
                      go_round
                      case measure => simp [intOf]; omega
                      case rel =>
                        refine ⟨k + 1, by omega, rfl, rfl, by go_num, fun j hj => ?_⟩
                        by_cases hjk : j = k
                        · subst hjk; exact HO.out
                        · exact HN.out j (by omega)
                    · cases r2
                      · go_wp2_with (go_at_call 15; refine hps.mono ?_; rintro e w' ⟨rfl, rfl⟩)
                        go_round
                        case measure => simp [intOf]; omega
                        case rel =>
                          refine ⟨k + 1, by omega, rfl, rfl, by go_num, fun j hj => ?_⟩
                          by_cases hjk : j = k
                          · subst hjk; exact HO.out
                          · exact HN.out j (by omega)
                      · cases r3
                        · go_wp2_with (go_at_call 15; refine hps.mono ?_; rintro e w' ⟨rfl, rfl⟩)
                          go_round
                          case measure => simp [intOf]; omega
                          case rel =>
                            refine ⟨k + 1, by omega, rfl, rfl, by go_num, fun j hj => ?_⟩
                            by_cases hjk : j = k
                            · subst hjk; exact HO.out
                            · exact HN.out j (by omega)
                        · have HSC : Hid (Scan (okI (bAt lr fr) (bAt lo fo) (tAt lt ft) l) l.length (decide (0 < tAt lt ft (L + so))) (decide (0 < tAt lt ft (L + so))) (k + 1)) := .inl ⟨k, hlt, HO.out, HN.out, rfl, rfl⟩
                          generalize hgd : decide (0 < tAt lt ft (L + so)) = gd at *
                          go_wp2_with (go_at_call 15; refine hps.mono ?_; rintro e w' ⟨rfl, rfl⟩)
                          refine hwi.mono ?_
                          rintro e w7 ⟨ok, kk, rfl, hS, hb7⟩
                          obtain ⟨rfl, rfl⟩ := hS.one HSC.out
                          go_wp2
                          go_ret
                          exact ⟨rfl, B.trans (hb7.mono B.size)⟩
                  · as_aux_lemma =>
                    obtain rfl : k = l.length := by omega
                    have HSC : Hid (Scan (okI (bAt lr fr) (bAt lo fo) (tAt lt ft) l) l.length (decide (0 < tAt lt ft (L + so))) false l.length) := .inr ⟨hno, rfl, rfl⟩
                    go_wp2_with fail
                    refine hwi.mono ?_
                    rintro e w7 ⟨ok, kk, rfl, hS, hb7⟩
                    obtain ⟨rfl, rfl⟩ := hS.one HSC.out
                    go_wp2
                    go_ret
                    exact ⟨rfl, B.trans (hb7.mono B.size)⟩
end Go.Proofs.Ybulkakko
