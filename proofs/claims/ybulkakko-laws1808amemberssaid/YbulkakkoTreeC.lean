/- The walk of 'changeAt' (in is true), 'add'. -/
import Derived.Test.YbulkakkoTreeB
import Derived.Test.YbulkakkoSort
import Derived.Deep.QuietTactic
import Derived.BigQuiet
import Derived.Deep.RegionHeld3
import Derived.Deep.DrawnRows
namespace Go.Proofs.Ybulkakko
open Go.RowKit
set_option linter.unusedVariables false
set_option linter.unusedSimpArgs false

/-! ### Small laws on worlds -/
theorem kOld {w w' : World} (hb : Below w.heap.size w w') {a : Addr} {v : Value} (h : w.cell? a = some v) : w'.cell? a = some v := by
  have hl : a.block < w.heap.size := by
    rcases Nat.lt_or_ge a.block w.heap.size with h' | h'
    · exact h'
    · simp [World.cell?, Array.getElem?_eq_none h'] at h
  rw [hb.cell hl]; exact h
theorem kD {B : Nat} {a w : World} (h : Below B a w) (n : Nat) : Below B a (w.drewN n) := ⟨h.os, h.tape, h.output, h.size, h.block⟩
theorem kT {a b c : World} (h : Below a.heap.size a b) (k : Below b.heap.size b c) : Below a.heap.size a c := h.trans (k.mono h.size)
theorem kA {a b : World} (h : Below a.heap.size a b) (o : Obj) : Below a.heap.size a (b.alloc o) := h.alloc h.size o
theorem In.alloc {w : World} {t : T} (h : In w t) (o : Obj) : In (w.alloc o) t := h.below ((Below.refl _ _).alloc (Nat.le_refl _) o)
theorem In.drew {w : World} {t : T} (h : In w t) : In w.drew t := h.below (Below.refl _ _).drew
theorem bAlloc {w : World} {A : Nat} {o : Obj} (h : w.heap[A]? = some o) (o' : Obj) : (w.alloc o').heap[A]? = some o := by
  rw [Below.heap_alloc w o' A (lt_of_block h)]; exact h
theorem bBelow {w w' : World} (hb : Below w.heap.size w w') {A : Nat} {o : Obj} (h : w.heap[A]? = some o) : w'.heap[A]? = some o := by
  rw [hb.block A (lt_of_block h)]; exact h
theorem bDrew {w : World} {A : Nat} {o : Obj} (h : w.heap[A]? = some o) : w.drew.heap[A]? = some o := h
theorem row1 {w : World} {A : Nat} {t : T} (h : w.heap[A]? = some (.cells #[.pointer t.addr] 31 (0, 0))) (hi : In w t) : Row w A [t] := by
  intro i hi'
  obtain rfl : i = 0 := by simp at hi'; exact hi'
  exact ⟨cell_of h 0 _ rfl, hi⟩
theorem row1nil {w : World} {A : Nat} (h : w.heap[A]? = some (.cells #[.pointer none] 31 (0, 0))) (hi : In w .nil) : Row w A [.nil] := row1 h hi
theorem row1node {w : World} {A b : Nat} {x n : Int} {l r : T} (h : w.heap[A]? = some (.cells #[.pointer (some ⟨b, 0, none⟩)] 31 (0, 0))) (hi : In w (.node b x l r n)) : Row w A [.node b x l r n] := row1 h hi
theorem row2 {w : World} {A : Nat} {s t : T} (h : w.heap[A]? = some (.cells #[.pointer s.addr, .pointer t.addr] 31 (0, 0))) (hi : In w s) (hj : In w t) : Row w A [s, t] := by
  intro i hi'
  have : i = 0 ∨ i = 1 := by simp at hi'; omega
  rcases this with rfl | rfl
  · exact ⟨cell_of h 0 _ rfl, hi⟩
  · exact ⟨cell_of h 1 _ rfl, hj⟩

/-- The numbers zs lie in w from cell 'off' of block g on. -/
def Ints (w : World) (g off : Nat) (zs : List Int) : Prop := ∀ j, j < zs.length → w.cell? ⟨g, off + j, none⟩ = some (.int .i64 (zs.getD j 0))
theorem Ints.below {w w' : World} {g off : Nat} {zs : List Int} (h : Ints w g off zs) (hb : Below w.heap.size w w') : Ints w' g off zs := fun j hj => kOld hb (h j hj)
theorem Ints.alloc {w : World} {g off : Nat} {zs : List Int} (h : Ints w g off zs) (o : Obj) : Ints (w.alloc o) g off zs := h.below (kA (Below.refl _ _) o)
theorem Ints.drew {w : World} {g off : Nat} {zs : List Int} (h : Ints w g off zs) : Ints w.drew g off zs := h.below (Below.refl _ _).drew
theorem Ints.take {w : World} {g off : Nat} {zs : List Int} (h : Ints w g off zs) (i : Nat) : Ints w g off (zs.take i) := by
  intro j hj
  rw [List.length_take] at hj
  rw [h j (by omega)]
  congr 2
  simp only [List.getD, List.getElem?_take]
  rw [if_pos (by omega)]
theorem Ints.drop {w : World} {g off : Nat} {zs : List Int} (h : Ints w g off zs) (i : Nat) : Ints w g (off + i) (zs.drop i) := by
  intro j hj
  rw [List.length_drop] at hj
  rw [Nat.add_assoc, h (i + j) (by omega)]
  congr 2
  simp [List.getD, List.getElem?_drop]

theorem count_take {m : Int} : ∀ {zs : List Int}, zs.Pairwise (· ≤ ·) → ∀ k ∈ zs.take (zs.countP (· < m)), k < m
  | [], _, k, hk => by simp at hk
  | z :: zs, hs, k, hk => by
    obtain ⟨h1, h2⟩ := List.pairwise_cons.1 hs
    by_cases hz : z < m
    · rw [List.countP_cons_of_pos (by simpa using hz), List.take_succ_cons] at hk
      rcases List.mem_cons.1 hk with rfl | hk
      · exact hz
      · exact count_take h2 k hk
    · have h0 : (z :: zs).countP (· < m) = 0 := by
        rw [List.countP_eq_zero]
        intro y hy
        rcases List.mem_cons.1 hy with rfl | hy
        · simpa using hz
        · have := h1 y hy; simp; omega
      rw [h0] at hk
      simp at hk
theorem count_drop {m : Int} : ∀ {zs : List Int}, zs.Pairwise (· ≤ ·) → ∀ k ∈ zs.drop (zs.countP (· < m)), m ≤ k
  | [], _, k, hk => by simp at hk
  | z :: zs, hs, k, hk => by
    obtain ⟨h1, h2⟩ := List.pairwise_cons.1 hs
    by_cases hz : z < m
    · rw [List.countP_cons_of_pos (by simpa using hz), List.drop_succ_cons] at hk
      exact count_drop h2 k hk
    · have h0 : (z :: zs).countP (· < m) = 0 := by
        rw [List.countP_eq_zero]
        intro y hy
        rcases List.mem_cons.1 hy with rfl | hy
        · simpa using hz
        · have := h1 y hy; simp; omega
      rw [h0] at hk
      rcases List.mem_cons.1 hk with rfl | hk
      · omega
      · have := h1 k hk; omega

/-- The word behind the loop over the indices. -/
def zfold (lo : Nat) (x : Int) : List Int → Int
  | [] => x
  | z :: zs => zfold lo (bits .or .u64 x (2 ^ (z - lo).toNat)) zs
theorem zfold_snoc (lo : Nat) (z : Int) : ∀ (zs : List Int) (x : Int), zfold lo x (zs ++ [z]) = bits .or .u64 (zfold lo x zs) (2 ^ (z - lo).toNat)
  | [], x => rfl
  | y :: ys, x => by simp only [List.cons_append, zfold]; exact zfold_snoc lo z ys _
theorem zfold_take (lo : Nat) (x : Int) (zs : List Int) (k d : Nat) (h : k < zs.length) (hd : zs.getD k 0 - (lo : Int) = (d : Int)) : zfold lo x (zs.take (k + 1)) = bits .or .u64 (zfold lo x (zs.take k)) (2 ^ d) := by
  have : zs.take (k + 1) = zs.take k ++ [zs.getD k 0] := by
    rw [List.take_add_one]
    simp [List.getD, List.getElem?_eq_getElem h]
  rw [this, zfold_snoc, hd, Int.toNat_natCast]

/-- 'changeAt' with 'in' true: what it hands back. -/
inductive AddR : Nat → Nat → List Int → T → T → Prop
  | none (h lo : Nat) (t : T) : AddR h lo [] t t
  | leaf (lo : Nat) (zs : List Int) (t v : T) : zs ≠ [] → LeafR (zfold lo t.word zs) [t] v → AddR 0 lo zs t v
  | node (h lo : Nat) (zs : List Int) (t l r v : T) (i : Nat) : zs ≠ [] → i = zs.countP (· < ((lo + 64 * 2 ^ h : Nat) : Int)) → AddR h lo (zs.take i) t.left l → AddR h (lo + 64 * 2 ^ h) (zs.drop i) t.right r → JoinR l r [t] v → AddR (h + 1) lo zs t v

/-- The contract of 'changeAt' at height h. -/
def ChangeAt (h : Nat) : Prop := ∀ (sp : Option Addr) (t : T) (g off cap lo : Nat) (zs : List Int) (w : World), In w t → Ints w g off zs → zs.length ≤ cap → zs.length ≤ 4096 → lo + 64 * 2 ^ h ≤ 4096 → zs.Pairwise (· ≤ ·) →
    (∀ k ∈ zs, (lo : Int) ≤ k ∧ k < ((lo + 64 * 2 ^ h : Nat) : Int)) →
    Calls Yba.prog 25 #[.pointer sp, .pointer t.addr, .slice (some ⟨g, off, none⟩) zs.length cap, .bool true, .int .i64 lo, .int .i64 h] w fun e w' =>
      ∃ v : T, e = .returned (.pointer v.addr) ∧ In w' v ∧ Below w.heap.size w w' ∧ AddR h lo zs t v

theorem change_none (sp : Option Addr) (t : T) (g off cap lo h : Nat) (w : World) (ht : In w t) :
    Calls Yba.prog 25 #[.pointer sp, .pointer t.addr, .slice (some ⟨g, off, none⟩) 0 cap, .bool true, .int .i64 lo, .int .i64 h] w fun e w' =>
      ∃ v : T, e = .returned (.pointer v.addr) ∧ In w' v ∧ Below w.heap.size w w' ∧ AddR h lo [] t v := by
  have HT : Hid (In w t) := ht
  clear ht
  go_enter Yba.func25, Yba.ntmps25
  go_wp2
  go_ret
  exact ⟨t, rfl, HT.out, Below.refl _ _, .none _ _ _⟩

theorem wrap2 (d : Nat) (hd : d < 64) : IntKind.u64.wrap (2 ^ d) = 2 ^ d := by
  rw [IntKind.wrap_u64]
  have h1 : (2 : Nat) ^ d ≤ 2 ^ 63 := Nat.pow_le_pow_right (by decide) (by omega)
  have h2 : ((2 : Int) ^ d) = ((2 ^ d : Nat) : Int) := by push_cast; rfl
  rw [h2]
  generalize (2 : Nat) ^ d = p at *
  omega

set_option maxRecDepth 100000 in
set_option maxHeartbeats 4000000 in
theorem change0 (sp : Option Addr) (t : T) (g off cap lo : Nat) (zs : List Int) (w : World) (ht : In w t) (hz : Ints w g off zs) (hnz : zs ≠ []) (hn2 : zs.length ≤ 4096) (hlo : lo + 64 ≤ 4096) (hk : ∀ k ∈ zs, (lo : Int) ≤ k ∧ k < lo + 64) :
    Calls Yba.prog 25 #[.pointer sp, .pointer t.addr, .slice (some ⟨g, off, none⟩) zs.length cap, .bool true, .int .i64 lo, .int .i64 0] w fun e w' =>
      ∃ v : T, e = .returned (.pointer v.addr) ∧ In w' v ∧ Below w.heap.size w w' ∧ AddR 0 lo zs t v := by
  have HZ : Hid (Ints w g off zs) := hz
  have HK : Hid (∀ k ∈ zs, (lo : Int) ≤ k ∧ k < lo + 64) := hk
  have HNE : Hid (zs ≠ []) := hnz
  have hn : 0 < zs.length := List.length_pos_iff.2 hnz
  have hne : ¬ (zs.length : Int) = 0 := by omega
  have HT : Hid (In w t) := ht
  clear hz hk hnz
  cases t with
  | nil =>
    simp only [T.addr]
    have BB : Below w.heap.size w w := Below.refl _ _
    clear ht
    go_enter Yba.func25, Yba.ntmps25
    go_wp2
    go_loop [15, 17, 43] (fun s15 s17 s43 => ∃ (k : Nat), k ≤ zs.length ∧ s15 = .int .u64 (zfold lo 0 (zs.take k)) ∧ s43 = .int .i64 k) (fun _ _ s43 => zs.length - (intOf s43).toNat)
    case atStart => exact ⟨0, Nat.zero_le _, rfl, rfl⟩
    case round =>
      obtain ⟨k, hk', rfl, rfl⟩ := hrel
      by_cases hlt : k < zs.length
      · have c1 := HZ.out k hlt
        have hki : (k : Int) < (zs.length : Int) := by omega
        have hmem := HK.out _ (show zs.getD k 0 ∈ zs by simp [List.getD, hlt])
        obtain ⟨d, hd⟩ : ∃ d : Nat, zs.getD k 0 - (lo : Int) = (d : Int) := ⟨(zs.getD k 0 - (lo : Int)).toNat, by omega⟩
        have hd64 : d < 64 := by omega
        have hwr : wrap64 (d : Int) = (d : Int) := IntWalk.wrap64_in _ (by omega)
        have HW : Hid (IntKind.u64.wrap (2 ^ d) = 2 ^ d) := wrap2 d hd64
        have hstep := zfold_take lo 0 zs k d hlt hd
        have HS : Hid (zfold lo 0 (zs.take (k + 1)) = bits .or .u64 (zfold lo 0 (zs.take k)) (2 ^ d)) := hstep
        generalize zs.getD k 0 = z at *
        clear hmem hstep
        generalize hy : zfold lo 0 (zs.take k) = y at *
        have HY : Hid (zfold lo 0 (zs.take k) = y) := hy
        clear hy
        go_wp2
        go_round
        case measure => simp only [intOf]; omega
        case rel => exact ⟨k + 1, by omega, by rw [HS.out, HW.out], by simp⟩
      · obtain rfl : k = zs.length := by omega
        rw [List.take_length]
        go_wp2_with fail
        refine (leaf_any _ _ [.nil] _ (row1 (alloc_at _ _) (In.alloc HT.out _)) (by simp)).mono ?_
        rintro e w' ⟨v, rfl, I1, B1, A1⟩
        go_wp2
        go_ret
        exact ⟨v, rfl, I1, kT (kA BB _) B1, .leaf _ _ _ _ HNE.out A1⟩
  | node b x l r n =>
    have c0 := cell_of ht.1 0 (.int .u64 x) rfl
    have c1 := cell_of ht.1 1 (.pointer l.addr) rfl
    have c2 := cell_of ht.1 2 (.pointer r.addr) rfl
    simp only [T.addr]
    clear ht
    go_enter Yba.func25, Yba.ntmps25
    go_wp2
    go_quiet (fail)
    have BB : Below w.heap.size w (w.drewN nq) := kD (Below.refl _ _) _
    replace HZ : Hid (Ints (w.drewN nq) g off zs) := HZ.out.below BB
    replace HT : Hid (In (w.drewN nq) (.node b x l r n)) := HT.out.below BB
    clear c0 c1 c2
    generalize w.drewN nq = w1 at *
    go_wp2
    go_loop [15, 17, 43] (fun s15 s17 s43 => ∃ (k : Nat), k ≤ zs.length ∧ s15 = .int .u64 (zfold lo x (zs.take k)) ∧ s43 = .int .i64 k) (fun _ _ s43 => zs.length - (intOf s43).toNat)
    case atStart => exact ⟨0, Nat.zero_le _, rfl, rfl⟩
    case round =>
      obtain ⟨k, hk', rfl, rfl⟩ := hrel
      by_cases hlt : k < zs.length
      · have c1 := HZ.out k hlt
        have hki : (k : Int) < (zs.length : Int) := by omega
        have hmem := HK.out _ (show zs.getD k 0 ∈ zs by simp [List.getD, hlt])
        obtain ⟨d, hd⟩ : ∃ d : Nat, zs.getD k 0 - (lo : Int) = (d : Int) := ⟨(zs.getD k 0 - (lo : Int)).toNat, by omega⟩
        have hd64 : d < 64 := by omega
        have hwr : wrap64 (d : Int) = (d : Int) := IntWalk.wrap64_in _ (by omega)
        have HW : Hid (IntKind.u64.wrap (2 ^ d) = 2 ^ d) := wrap2 d hd64
        have hstep := zfold_take lo x zs k d hlt hd
        have HS : Hid (zfold lo x (zs.take (k + 1)) = bits .or .u64 (zfold lo x (zs.take k)) (2 ^ d)) := hstep
        generalize zs.getD k 0 = z at *
        clear hmem hstep
        generalize hy : zfold lo x (zs.take k) = y at *
        have HY : Hid (zfold lo x (zs.take k) = y) := hy
        clear hy
        go_wp2
        go_round
        case measure => simp only [intOf]; omega
        case rel => exact ⟨k + 1, by omega, by rw [HS.out, HW.out], by simp⟩
      · obtain rfl : k = zs.length := by omega
        rw [List.take_length]
        go_wp2_with fail
        refine (leaf_any _ _ [.node b x l r n] _ (row1 (alloc_at _ _) (In.alloc HT.out _)) (by simp)).mono ?_
        rintro e w' ⟨v, rfl, I1, B1, A1⟩
        go_wp2
        go_ret
        exact ⟨v, rfl, I1, kT (kA BB _) B1, .leaf _ _ _ _ HNE.out A1⟩

theorem search_any (g off cap : Nat) (zs : List Int) (x : Int) (w : World) (hcap : zs.length ≤ cap) (hn2 : zs.length ≤ 4096) (hz : Ints w g off zs) (hs : zs.Pairwise (· ≤ ·)) :
    Calls Yba.prog 43 #[.slice (some ⟨g, off, none⟩) zs.length cap, .int .i64 x] w fun e w' => e = .returned (.tuple #[.int .i64 (zs.countP (· < x) : Nat), .bool (zs.contains x)]) ∧ ∃ q, w' = w.drewN q := by
  have h := Any.slices_BinarySearch_int Yba.lays2n25 g off zs.length cap zs x w (Nat.le_refl _) (by omega) hz (by rw [List.take_length]; exact hs)
  rw [List.take_length, f25] at h
  exact h

set_option maxRecDepth 100000 in
set_option maxHeartbeats 4000000 in
theorem changeS (h : Nat) (IH : ChangeAt h) (hh : h ≤ 5) (sp : Option Addr) (t : T) (g off cap lo : Nat) (zs : List Int) (w : World) (ht : In w t) (hz : Ints w g off zs) (hcap : zs.length ≤ cap) (hnz : zs ≠ []) (hn2 : zs.length ≤ 4096) (hlo : lo + 64 * 2 ^ (h + 1) ≤ 4096)
    (hs : zs.Pairwise (· ≤ ·)) (hk : ∀ k ∈ zs, (lo : Int) ≤ k ∧ k < ((lo + 64 * 2 ^ (h + 1) : Nat) : Int)) :
    Calls Yba.prog 25 #[.pointer sp, .pointer t.addr, .slice (some ⟨g, off, none⟩) zs.length cap, .bool true, .int .i64 lo, .int .i64 (h + 1)] w fun e w' =>
      ∃ v : T, e = .returned (.pointer v.addr) ∧ In w' v ∧ Below w.heap.size w w' ∧ AddR (h + 1) lo zs t v := by
  have HZ : Hid (Ints w g off zs) := hz
  have HK : Hid (∀ k ∈ zs, (lo : Int) ≤ k ∧ k < ((lo + 64 * 2 ^ (h + 1) : Nat) : Int)) := hk
  have HNE : Hid (zs ≠ []) := hnz
  have HS : Hid (zs.Pairwise (· ≤ ·)) := hs
  have HIH : Hid (ChangeAt h) := IH
  have hn : 0 < zs.length := List.length_pos_iff.2 hnz
  have hne : ¬ (zs.length : Int) = 0 := by omega
  have HT : Hid (In w t) := ht
  have hp1 : 2 ^ (h + 1) = 2 * 2 ^ h := by rw [Nat.pow_succ]; omega
  obtain ⟨mid, hmid⟩ : ∃ mid, mid = lo + 64 * 2 ^ h := ⟨_, rfl⟩
  have hlo' : mid + 64 * 2 ^ h ≤ 4096 := by rw [hmid]; omega
  have hm64 : wrap64 ((lo : Int) + wrap64 (64 * 2 ^ h)) = (mid : Int) := by
    have e : ((64 : Int) * 2 ^ h) = ((64 * 2 ^ h : Nat) : Int) := by push_cast; rfl
    rw [e]
    rw [IntWalk.wrap64_in ((64 * 2 ^ h : Nat) : Int) (by omega), IntWalk.wrap64_in _ (by omega), hmid]; push_cast; rfl
  have HM : Hid (mid = lo + 64 * 2 ^ h ∧ mid + 64 * 2 ^ h ≤ 4096 ∧ mid + 64 * 2 ^ h = lo + 64 * 2 ^ (h + 1)) := ⟨hmid, hlo', by rw [hmid]; omega⟩
  clear hz hk hnz hs IH hp1 hmid hlo hlo'
  cases t with
  | nil =>
    simp only [T.addr]
    have BB : Below w.heap.size w w := Below.refl _ _
    clear ht
    go_enter Yba.func25, Yba.ntmps25
    go_wp2_with fail
    refine (search_any g off cap zs _ _ hcap hn2 HZ.out HS.out).mono ?_
    rintro e w2 ⟨rfl, q, rfl⟩
    have BB2 : Below w.heap.size w (w.drewN q) := kD BB _
    have HZ2 : Hid (Ints (w.drewN q) g off zs) := HZ.out.below (kD (Below.refl _ _) _)
    have HT2 : Hid (In (w.drewN q) .nil) := HT.out.below (kD (Below.refl _ _) _)
    clear HZ HT BB
    generalize w.drewN q = w3 at *
    obtain ⟨i, hi⟩ : ∃ i, i = zs.countP (· < (mid : Int)) := ⟨_, rfl⟩
    have hi1 : i ≤ zs.length := by rw [hi]; exact List.countP_le_length
    have HI : Hid (i = zs.countP (· < (mid : Int))) := hi
    rw [← hi]
    generalize zs.contains (mid : Int) = cc
    clear hi
    have hii : (i : Int) ≤ (zs.length : Int) := by omega
    have hii2 : (i : Int) ≤ (cap : Int) := by omega
    go_wp2_with fail
    have hhw : wrap64 ((h : Int) + 1 - 1) = (h : Int) := by rw [IntWalk.wrap64_in _ (by omega)]; omega
    have hhw2 : IntKind.i64.wrap (h : Int) = (h : Int) := Go.wrap_small h (by omega) (by omega)
    have IL : In w3 (.nil : T) := In.left HT2.out
    have IR : In w3 (.nil : T) := In.right HT2.out
    have s1 : (zs.take i).Pairwise (· ≤ ·) := HS.out.take
    have s2 : (zs.drop i).Pairwise (· ≤ ·) := HS.out.drop
    have b1 : ∀ k ∈ zs.take i, (lo : Int) ≤ k ∧ k < ((lo + 64 * 2 ^ h : Nat) : Int) := fun k hk => ⟨(HK.out k (List.mem_of_mem_take hk)).1, by rw [← HM.out.1]; rw [HI.out] at hk; exact count_take HS.out k hk⟩
    have b2 : ∀ k ∈ zs.drop i, (mid : Int) ≤ k ∧ k < ((mid + 64 * 2 ^ h : Nat) : Int) := fun k hk => ⟨by rw [HI.out] at hk; exact count_drop HS.out k hk, by rw [HM.out.2.2]; exact (HK.out k (List.mem_of_mem_drop hk)).2⟩
    have l1 : (zs.take i).length = i := by rw [List.length_take]; omega
    have l2 : (zs.drop i).length = zs.length - i := List.length_drop
    have hlo1 : lo + 64 * 2 ^ h ≤ 4096 := by have := HM.out; omega
    have C1 : ∀ W : World, Below w3.heap.size w3 W → Calls Yba.prog 25 #[.pointer sp, .pointer none, .slice (some ⟨g, off, none⟩) i cap, .bool true, .int .i64 lo, .int .i64 h] W fun e w' =>
      ∃ v : T, e = .returned (.pointer v.addr) ∧ In w' v ∧ Below W.heap.size W w' ∧ AddR h lo (zs.take i) (.nil : T) v := fun W hW => by
      have := HIH.out sp (.nil : T) g off cap lo (zs.take i) W (IL.below hW) ((HZ2.out.below hW).take i) (by omega) (by omega) hlo1 s1 b1
      rw [l1] at this
      exact this
    have C2 : ∀ W : World, Below w3.heap.size w3 W → Calls Yba.prog 25 #[.pointer sp, .pointer none, .slice (if cap = i then some ⟨g, off, none⟩ else some ⟨g, off + i, none⟩) (zs.length - i) (cap - i), .bool true, .int .i64 mid, .int .i64 h] W fun e w' =>
      ∃ v : T, e = .returned (.pointer v.addr) ∧ In w' v ∧ Below W.heap.size W w' ∧ AddR h mid (zs.drop i) (.nil : T) v := fun W hW => by
      by_cases hci : cap = i
      · rw [if_pos hci]
        have := HIH.out sp (.nil : T) g off (cap - i) mid (zs.drop i) W (IR.below hW) (fun j hj => by omega) (by omega) (by omega) HM.out.2.1 s2 b2
        rw [l2] at this
        exact this
      · rw [if_neg hci]
        have := HIH.out sp (.nil : T) g (off + i) (cap - i) mid (zs.drop i) W (IR.below hW) ((HZ2.out.below hW).drop i) (by omega) (by omega) HM.out.2.1 s2 b2
        rw [l2] at this
        exact this
    have HC1 : Hid (∀ W : World, Below w3.heap.size w3 W → Calls Yba.prog 25 #[.pointer sp, .pointer none, .slice (some ⟨g, off, none⟩) i cap, .bool true, .int .i64 lo, .int .i64 h] W fun e w' =>
      ∃ v : T, e = .returned (.pointer v.addr) ∧ In w' v ∧ Below W.heap.size W w' ∧ AddR h lo (zs.take i) (.nil : T) v) := C1
    have HC2 : Hid (∀ W : World, Below w3.heap.size w3 W → Calls Yba.prog 25 #[.pointer sp, .pointer none, .slice (if cap = i then some ⟨g, off, none⟩ else some ⟨g, off + i, none⟩) (zs.length - i) (cap - i), .bool true, .int .i64 mid, .int .i64 h] W fun e w' =>
      ∃ v : T, e = .returned (.pointer v.addr) ∧ In w' v ∧ Below W.heap.size W w' ∧ AddR h mid (zs.drop i) (.nil : T) v) := C2
    clear C1 C2 IL IR s1 s2 b1 b2 l1 l2 hlo1 HIH
    go_region_held3 (fun _ => True) (trivial)
      (first
        | (go_at_call 25; with_reducible refine (HC1.out _ (by repeat (first | exact Below.refl _ _ | apply Below.drew | apply kA | refine kT ?_ (by assumption)))).mono ?_; rintro e wA ⟨vA, rfl, IA, BA, RA⟩; dsimp only)
        | (go_at_call 25; with_reducible refine (HC2.out _ (by repeat (first | exact Below.refl _ _ | apply Below.drew | apply kA | refine kT ?_ (by assumption)))).mono ?_; rintro e wB ⟨vB, rfl, IB, BC, RB⟩; dsimp only)
        | (go_at_call 29; refine (joined_any vA vB _ [.nil] _ (by with_reducible repeat (first | assumption | apply In.drew | apply In.alloc | refine In.below (by assumption) ?_)) (by with_reducible repeat (first | assumption | apply In.drew | apply In.alloc | refine In.below (by assumption) ?_)) (row1nil (by with_reducible repeat (first | exact alloc_at _ _ | apply bDrew | apply bAlloc | refine bBelow (by assumption) ?_)) (by with_reducible repeat (first | exact HT2.out | apply In.drew | apply In.alloc | refine In.below (by assumption) ?_))) (by simp)).mono ?_; rintro e wD ⟨vD, rfl, ID, BD, RD⟩; dsimp only))
    all_goals go_wp2
    all_goals go_ret
    all_goals exact ⟨vD, rfl, ID, kT BB2 (by with_reducible repeat (first | exact Below.refl _ _ | apply Below.drew | apply kA | refine kT ?_ (by assumption))), .node _ _ _ _ _ _ _ i HNE.out (by rw [HI.out, HM.out.1]) RA (by rw [← HM.out.1]; exact RB) RD⟩
  | node b x l r n =>
    have c0 := cell_of ht.1 0 (.int .u64 x) rfl
    have c1 := cell_of ht.1 1 (.pointer l.addr) rfl
    have c2 := cell_of ht.1 2 (.pointer r.addr) rfl
    simp only [T.addr]
    clear ht
    go_enter Yba.func25, Yba.ntmps25
    go_wp2
    go_quiet (fail)
    have BB : Below w.heap.size w (w.drewN nq) := kD (Below.refl _ _) _
    replace HZ : Hid (Ints (w.drewN nq) g off zs) := HZ.out.below BB
    replace HT : Hid (In (w.drewN nq) (.node b x l r n)) := HT.out.below BB
    clear c0 c1 c2
    generalize w.drewN nq = w1 at *
    go_wp2_with fail
    refine (search_any g off cap zs _ _ hcap hn2 HZ.out HS.out).mono ?_
    rintro e w2 ⟨rfl, q, rfl⟩
    have BB2 : Below w.heap.size w (w1.drewN q) := kD BB _
    have HZ2 : Hid (Ints (w1.drewN q) g off zs) := HZ.out.below (kD (Below.refl _ _) _)
    have HT2 : Hid (In (w1.drewN q) (.node b x l r n)) := HT.out.below (kD (Below.refl _ _) _)
    clear HZ HT BB
    generalize w1.drewN q = w3 at *
    obtain ⟨i, hi⟩ : ∃ i, i = zs.countP (· < (mid : Int)) := ⟨_, rfl⟩
    have hi1 : i ≤ zs.length := by rw [hi]; exact List.countP_le_length
    have HI : Hid (i = zs.countP (· < (mid : Int))) := hi
    rw [← hi]
    generalize zs.contains (mid : Int) = cc
    clear hi
    have hii : (i : Int) ≤ (zs.length : Int) := by omega
    have hii2 : (i : Int) ≤ (cap : Int) := by omega
    go_wp2_with fail
    have hhw : wrap64 ((h : Int) + 1 - 1) = (h : Int) := by rw [IntWalk.wrap64_in _ (by omega)]; omega
    have hhw2 : IntKind.i64.wrap (h : Int) = (h : Int) := Go.wrap_small h (by omega) (by omega)
    have IL : In w3 l := In.left HT2.out
    have IR : In w3 r := In.right HT2.out
    have s1 : (zs.take i).Pairwise (· ≤ ·) := HS.out.take
    have s2 : (zs.drop i).Pairwise (· ≤ ·) := HS.out.drop
    have b1 : ∀ k ∈ zs.take i, (lo : Int) ≤ k ∧ k < ((lo + 64 * 2 ^ h : Nat) : Int) := fun k hk => ⟨(HK.out k (List.mem_of_mem_take hk)).1, by rw [← HM.out.1]; rw [HI.out] at hk; exact count_take HS.out k hk⟩
    have b2 : ∀ k ∈ zs.drop i, (mid : Int) ≤ k ∧ k < ((mid + 64 * 2 ^ h : Nat) : Int) := fun k hk => ⟨by rw [HI.out] at hk; exact count_drop HS.out k hk, by rw [HM.out.2.2]; exact (HK.out k (List.mem_of_mem_drop hk)).2⟩
    have l1 : (zs.take i).length = i := by rw [List.length_take]; omega
    have l2 : (zs.drop i).length = zs.length - i := List.length_drop
    have hlo1 : lo + 64 * 2 ^ h ≤ 4096 := by have := HM.out; omega
    have C1 : ∀ W : World, Below w3.heap.size w3 W → Calls Yba.prog 25 #[.pointer sp, .pointer l.addr, .slice (some ⟨g, off, none⟩) i cap, .bool true, .int .i64 lo, .int .i64 h] W fun e w' =>
      ∃ v : T, e = .returned (.pointer v.addr) ∧ In w' v ∧ Below W.heap.size W w' ∧ AddR h lo (zs.take i) l v := fun W hW => by
      have := HIH.out sp l g off cap lo (zs.take i) W (IL.below hW) ((HZ2.out.below hW).take i) (by omega) (by omega) hlo1 s1 b1
      rw [l1] at this
      exact this
    have C2 : ∀ W : World, Below w3.heap.size w3 W → Calls Yba.prog 25 #[.pointer sp, .pointer r.addr, .slice (if cap = i then some ⟨g, off, none⟩ else some ⟨g, off + i, none⟩) (zs.length - i) (cap - i), .bool true, .int .i64 mid, .int .i64 h] W fun e w' =>
      ∃ v : T, e = .returned (.pointer v.addr) ∧ In w' v ∧ Below W.heap.size W w' ∧ AddR h mid (zs.drop i) r v := fun W hW => by
      by_cases hci : cap = i
      · rw [if_pos hci]
        have := HIH.out sp r g off (cap - i) mid (zs.drop i) W (IR.below hW) (fun j hj => by omega) (by omega) (by omega) HM.out.2.1 s2 b2
        rw [l2] at this
        exact this
      · rw [if_neg hci]
        have := HIH.out sp r g (off + i) (cap - i) mid (zs.drop i) W (IR.below hW) ((HZ2.out.below hW).drop i) (by omega) (by omega) HM.out.2.1 s2 b2
        rw [l2] at this
        exact this
    have HC1 : Hid (∀ W : World, Below w3.heap.size w3 W → Calls Yba.prog 25 #[.pointer sp, .pointer l.addr, .slice (some ⟨g, off, none⟩) i cap, .bool true, .int .i64 lo, .int .i64 h] W fun e w' =>
      ∃ v : T, e = .returned (.pointer v.addr) ∧ In w' v ∧ Below W.heap.size W w' ∧ AddR h lo (zs.take i) l v) := C1
    have HC2 : Hid (∀ W : World, Below w3.heap.size w3 W → Calls Yba.prog 25 #[.pointer sp, .pointer r.addr, .slice (if cap = i then some ⟨g, off, none⟩ else some ⟨g, off + i, none⟩) (zs.length - i) (cap - i), .bool true, .int .i64 mid, .int .i64 h] W fun e w' =>
      ∃ v : T, e = .returned (.pointer v.addr) ∧ In w' v ∧ Below W.heap.size W w' ∧ AddR h mid (zs.drop i) r v) := C2
    clear C1 C2 IL IR s1 s2 b1 b2 l1 l2 hlo1 HIH
    go_region_held3 (fun _ => True) (trivial)
      (first
        | (go_at_call 25; with_reducible refine (HC1.out _ (by repeat (first | exact Below.refl _ _ | apply Below.drew | apply kA | refine kT ?_ (by assumption)))).mono ?_; rintro e wA ⟨vA, rfl, IA, BA, RA⟩; dsimp only)
        | (go_at_call 25; with_reducible refine (HC2.out _ (by repeat (first | exact Below.refl _ _ | apply Below.drew | apply kA | refine kT ?_ (by assumption)))).mono ?_; rintro e wB ⟨vB, rfl, IB, BC, RB⟩; dsimp only)
        | (go_at_call 29; refine (joined_any vA vB _ [(.node b x l r n)] _ (by with_reducible repeat (first | assumption | apply In.drew | apply In.alloc | refine In.below (by assumption) ?_)) (by with_reducible repeat (first | assumption | apply In.drew | apply In.alloc | refine In.below (by assumption) ?_)) (row1node (by with_reducible repeat (first | exact alloc_at _ _ | apply bDrew | apply bAlloc | refine bBelow (by assumption) ?_)) (by with_reducible repeat (first | exact HT2.out | apply In.drew | apply In.alloc | refine In.below (by assumption) ?_))) (by simp)).mono ?_; rintro e wD ⟨vD, rfl, ID, BD, RD⟩; dsimp only))
    all_goals go_wp2
    all_goals go_ret
    all_goals exact ⟨vD, rfl, ID, kT BB2 (by with_reducible repeat (first | exact Below.refl _ _ | apply Below.drew | apply kA | refine kT ?_ (by assumption))), .node _ _ _ _ _ _ _ i HNE.out (by rw [HI.out, HM.out.1]) RA (by rw [← HM.out.1]; exact RB) RD⟩

theorem change_all : ∀ h, h ≤ 5 → ChangeAt h
  | 0, _ => by
    intro sp t g off cap lo zs w ht hz hcap hn2 hlo hs hk
    by_cases hne : zs = []
    · subst hne; exact change_none sp t g off cap lo 0 w ht
    · exact change0 sp t g off cap lo zs w ht hz hne hn2 (by simpa using hlo) (by simpa using hk)
  | h + 1, hh => by
    intro sp t g off cap lo zs w ht hz hcap hn2 hlo hs hk
    by_cases hne : zs = []
    · subst hne; exact change_none sp t g off cap lo (h + 1) w ht
    · have := changeS h (change_all h (by omega)) (by omega) sp t g off cap lo zs w ht hz hcap hne hn2 hlo hs hk
      simpa using this

/-- 'sets.add(t, ks)'. -/
theorem add_any (sb h : Nat) (t : T) (g cap : Nat) (zs : List Int) (w : World) (hh : h ≤ 5) (hsb : w.cell? ⟨sb, 0, none⟩ = some (.int .i64 h)) (ht : In w t) (hz : Ints w g 0 zs) (hcap : zs.length ≤ cap) (hn2 : zs.length ≤ 4096)
    (hs : zs.Pairwise (· ≤ ·)) (hk : ∀ k ∈ zs, 0 ≤ k ∧ k < ((64 * 2 ^ h : Nat) : Int)) :
    Calls Yba.prog 18 #[.pointer (some ⟨sb, 0, none⟩), .pointer t.addr, .slice (some ⟨g, 0, none⟩) zs.length cap] w fun e w' =>
      ∃ v : T, e = .returned (.pointer v.addr) ∧ In w' v ∧ Below w.heap.size w w' ∧ AddR h 0 zs t v := by
  have hp : 2 ^ h ≤ 2 ^ 5 := Nat.pow_le_pow_right (by decide) hh
  have hc := change_all h hh (some ⟨sb, 0, none⟩) t g 0 cap 0 zs w ht hz hcap hn2 (by omega) hs (by simpa using hk)
  have HC : Hid (Calls Yba.prog 25 #[.pointer (some ⟨sb, 0, none⟩), .pointer t.addr, .slice (some ⟨g, 0, none⟩) zs.length cap, .bool true, .int .i64 (0 : Nat), .int .i64 h] w fun e w' => ∃ v : T, e = .returned (.pointer v.addr) ∧ In w' v ∧ Below w.heap.size w w' ∧ AddR h 0 zs t v) := hc
  clear hc ht hz hs hk hp
  go_enter Yba.func18, Yba.ntmps18
  go_wp2_with fail
  refine HC.out.mono ?_
  rintro e w' ⟨v, rfl, I1, B1, A1⟩
  go_wp2
  go_ret
  exact ⟨v, rfl, I1, B1, A1⟩
end Go.Proofs.Ybulkakko
