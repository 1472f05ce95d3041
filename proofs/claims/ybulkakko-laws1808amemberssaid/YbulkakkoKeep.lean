/- LawS1808AKeepsWhole: its walk. -/
import Derived.Test.YbulkakkoTreeF
namespace Go.Proofs.Ybulkakko
open Go.RowKit
set_option linter.unusedVariables false
set_option linter.unusedSimpArgs false

theorem RowG.madeAll {w1 : World} {t : TypeId} {base b n : Nat} {u : Value} (h : w1.ownsRow base t 1 (.slice (some ⟨b, 0, none⟩) n n) n (madeCells #[u] (n * 1)).toList) : RowG w1 t b n n (fun _ => u) := by
  rcases h.2 with ⟨h, _⟩ | ⟨g, cap, cur, h, h1, h2, h3, h4, h5, h6⟩
  · simp at h
  · simp only [Value.slice.injEq, Option.some.injEq, Addr.mk.injEq] at h
    obtain ⟨⟨rfl, _⟩, _, rfl⟩ := h
    refine ⟨cur, h2, by omega, fun i hi => ?_⟩
    have e : (cur.toList.take (n * 1))[i]? = some u := by rw [h6]; simp [madeCells, hi, Nat.mod_one]
    rw [List.getElem?_take] at e
    split at e
    · simpa using e
    · cases e

/-- Nothing that was there when the law began has turned. -/
theorem bG {a b d : World} {c : Nat} (h : Below a.heap.size a b) (hc : a.heap.size ≤ c) (k : b.grownBy d (some c)) : Below a.heap.size a d :=
  h.grown k h.size (fun j hj => by cases hj; exact hc)

theorem cst_le {h : Nat} (hh : h ≤ 5) : cst h ≤ 31 := by
  match h, hh with
  | 0, _ | 1, _ | 2, _ | 3, _ | 4, _ | 5, _ => decide

/-- What stands behind the two builds: the sets, the two trees. -/
structure Two (w : World) (B sb h m N : Nat) (a b : T) : Prop where
  hh : h ≤ 5
  sets : Sets w sb h m
  ia : In w a
  ib : In w b
  wa : WF h a
  wb : WF h b
  mi : MInv w m N
  mb : B ≤ m
  nn : N ≤ 1000

theorem run_neq_self {w : World} {s : T} (hs : In w s) : (binOp .neq 31 (.pointer s.addr) (.pointer s.addr)).run Yba.prog w = .ok (.bool false) w := by
  have h := run_equalIn_tree hs hs 9999
  rw [decide_eq_true rfl] at h
  unfold T.ptr at h
  generalize s.addr = x at *
  simp only [binOp]
  simp [Op.equal, Op.maxDepth, h]
theorem run_eql_self {w : World} {s : T} (hs : In w s) : (binOp .eql 31 (.pointer s.addr) (.pointer s.addr)).run Yba.prog w = .ok (.bool true) w := by
  have := run_eql_tree hs hs
  rw [decide_eq_true rfl] at this
  exact this

theorem Uni.rightNil {h : Nat} {s u : T} (hu : Uni h s .nil u) : u = s := by
  cases hu with
  | nilL => rfl
  | same => rfl
  | nilR => rfl
  | leaf _ _ _ _ h => exact absurd rfl h
  | join _ _ _ _ _ _ _ h => exact absurd rfl h
theorem Uni.leftNil {h : Nat} {s u : T} (hu : Uni h .nil s u) : u = s := by
  cases hu with
  | nilL => rfl
  | same => rfl
  | nilR => rfl
  | leaf _ _ _ h => exact absurd rfl h
  | join _ _ _ _ _ _ h => exact absurd rfl h

/-- 'sets.union(s, t)' is v. -/
theorem Two.union {w w0 : World} {sb h m N : Nat} {a b : T} (k : Two w w0.heap.size sb h m N a b) (hb : Below w0.heap.size w0 w) (s t v : T) (hs : In w s) (ht : In w t) (ws : WF h s) (wt : WF h t) (hu : ∀ u, Uni h s t u → u = v) (hN2 : N + 31 ≤ 1000) :
    Calls Yba.prog 10 #[.pointer (some ⟨sb, 0, none⟩), .pointer s.addr, .pointer t.addr] w fun e w' =>
      e = .returned (.pointer v.addr) ∧ Two w' w0.heap.size sb h m (N + 31) a b ∧ Below w0.heap.size w0 w' ∧ (binOp .eql 31 (.pointer v.addr) (.pointer v.addr)).run Yba.prog w' = .ok (.bool true) w' ∧ (binOp .neq 31 (.pointer v.addr) (.pointer v.addr)).run Yba.prog w' = .ok (.bool false) w' := by
  have hc := cst_le k.hh
  have hN := k.nn
  refine (union_any h k.hh sb m N s t w k.sets.c0 k.sets.c3 hs ht ws wt k.mi (by omega)).mono ?_
  rintro e w' ⟨u, rfl, i1, f1, m1, u1⟩
  have e1 := hu u u1
  subst e1
  exact ⟨rfl, ⟨k.hh, k.sets.fr f1, k.ia.fr f1, k.ib.fr f1, k.wa, k.wb, m1.mono (by omega), k.mb, by omega⟩, bG hb k.mb f1.gr, run_eql_self i1, run_neq_self i1⟩

set_option maxRecDepth 100000 in
set_option maxHeartbeats 8000000 in
theorem keeps_walk (a0 : Int) (a1 : Option Addr) (len1 cap1 : Nat) (f1 : Nat → Int) (a2 : Option Addr) (len2 cap2 : Nat) (f2 : Nat → Int) (w : World) (h0 : 0 ≤ a0 ∧ a0 < 65536) (hl1 : len1 ≤ 1024) (hl2 : len2 ≤ 1024) (r1 : Raw w a1 len1 f1) (r2 : Raw w a2 len2 f2) :
    Calls Yba.prog 4 #[.int .u16 a0, .slice a1 len1 cap1, .slice a2 len2 cap2] w fun e w' => e = .returned (.bool true) ∧ Below w.heap.size w w' := by
  obtain ⟨i4, hi4, hz4, hs4, hb4⟩ := info_parts Yba.info4'
  have d1 : decide ((1024 : Int) < (len1 : Int)) = false := decide_eq_false (by omega)
  have d2 : decide ((1024 : Int) < (len2 : Int)) = false := decide_eq_false (by omega)
  obtain ⟨n, hn⟩ : ∃ n : Nat, 1 + a0 % 2048 = (n : Int) := ⟨(1 + a0 % 2048).toNat, by omega⟩
  have hn1 : 1 ≤ n ∧ n ≤ 2048 := by omega
  have HR1 : Hid (Raw w a1 len1 f1) := r1
  have HR2 : Hid (Raw w a2 len2 f2) := r2
  have hnew := new_any n w hn1.2
  clear r1 r2
  go_enter Yba.func4, Yba.ntmps4
  go_wp2_with fail
  refine hnew.mono ?_
  rintro e wn ⟨h, sb, m, rfl, hh, hnM, hS, hM, hB, hm⟩
  obtain ⟨M, hMM⟩ : ∃ M, M = 64 * 2 ^ h := ⟨_, rfl⟩
  have hsh := shl64 h hh
  have hp : 2 ^ h ≤ 2 ^ 5 := Nat.pow_le_pow_right (by decide) hh
  have hM2 : M ≤ 2048 := by omega
  rw [← hMM] at hsh hnM
  have HSH : Hid (wrap64 (64 * 2 ^ h) = (M : Int)) := hsh
  clear hsh
  have c0 := hS.c0
  have HS : Hid (Sets wn sb h m) := hS
  have HM : Hid (MInv wn m 0) := hM
  have HMM : Hid (M = 64 * 2 ^ h) := hMM
  have HHH : Hid (h ≤ 5) := hh
  clear hS hM hMM hnew hp
  go_wp2_with (at_make; refine wpList_make_full _ rfl _ _ 26 rfl wn.heap.size 4 i4 _ 1 Yba.underlying26 hi4 hz4 hs4 .i64 .i64 _ _ M rfl rfl HSH.out HSH.out (by rw [hb4]; omega) (by unfold maxLen; omega) (Nat.le_refl _) ?_; intro w1 hown1 hgrow1)
  have R1 : RowG w1 4 wn.heap.size M M (fun _ => .bool false) := RowG.madeAll hown1
  have B1 : Below wn.heap.size wn w1 := (Below.refl _ _).grown hgrow1 (Nat.le_refl _) (fun k hk => by cases hk)
  have HB1 : Hid (Below w.heap.size w w1) := kT hB B1
  have hS1 := HS.out.below B1
  have HM1 : Hid (MInv w1 m 0) := HM.out.below B1
  have hib : w.heap.size ≤ wn.heap.size := hB.size
  have hbu := build_any h sb m wn.heap.size n len1 cap1 M a1 f1 (fun _ => false) .nil w1 HHH.out HMM.out hn1.1 hnM hl1 hS1 trivial R1 (HR1.out.below HB1.out)
  have HBU : Hid (Calls Yba.prog 9 #[.pointer (some ⟨sb, 0, none⟩), .pointer none, .slice a1 len1 cap1, .int .i64 n, .slice (some ⟨wn.heap.size, 0, none⟩) M M] w1 fun e w' =>
      ∃ (v : T) (zs : List Int), e = .returned (.pointer v.addr) ∧ In w' v ∧ w1.grownBy w' (some wn.heap.size) ∧ AddR h 0 zs .nil v ∧ Rng h 0 zs ∧ RowG w' 4 wn.heap.size M M (fun i => .bool (false || decide ((i : Int) ∈ zs)))) := hbu
  have HR : Hid (RowG w1 4 wn.heap.size M M (fun _ => .bool false)) := R1
  have HS1 : Hid (Sets w1 sb h m) := hS1
  clear hown1 hgrow1 hbu R1 B1 hS1 hB c0 HS HM HR1 hi4 hz4 hs4 hb4
  generalize wn.heap.size = ib at *
  go_wp2_with fail
  refine HBU.out.mono ?_
  rintro e w2 ⟨a, zs, rfl, ia, ga, aa, ra, rowa⟩
  have HB2 : Hid (Below w.heap.size w w2) := bG HB1.out hib ga
  have wfa : WF h a := aa.wf (WF.nil h)
  have HWA : Hid (WF h a) := wfa
  have hS2 : Sets w2 sb h m := HS1.out.but HR.out ga
  have HM2 : Hid (MInv w2 m 0) := HM1.out.but HR.out ga
  have hbu := build_any h sb m ib n len2 cap2 M a2 f2 (fun i => false || decide ((i : Int) ∈ zs)) a w2 HHH.out HMM.out hn1.1 hnM hl2 hS2 ia rowa (HR2.out.below HB2.out)
  have HBV : Hid (Calls Yba.prog 9 #[.pointer (some ⟨sb, 0, none⟩), .pointer a.addr, .slice a2 len2 cap2, .int .i64 n, .slice (some ⟨ib, 0, none⟩) M M] w2 fun e w' =>
      ∃ (v : T) (ys : List Int), e = .returned (.pointer v.addr) ∧ In w' v ∧ w2.grownBy w' (some ib) ∧ AddR h 0 ys a v ∧ Rng h 0 ys ∧ RowG w' 4 ib M M (fun i => .bool ((false || decide ((i : Int) ∈ zs)) || decide ((i : Int) ∈ ys)))) := hbu
  have HRA : Hid (RowG w2 4 ib M M (fun i => .bool (false || decide ((i : Int) ∈ zs)))) := rowa
  have HS2 : Hid (Sets w2 sb h m) := hS2
  have HIA : Hid (In w2 a) := ia
  clear hbu rowa hS2 wfa aa ra ga ia HBU HR HS1 HB1 HM1 HR2
  go_wp2_with fail
  refine HBV.out.mono ?_
  rintro e w3 ⟨b, ys, rfl, ib3, gb, ab, rb, rowb⟩
  have T3 : Two w3 w.heap.size sb h m 0 a b := ⟨HHH.out, HS2.out.but HRA.out gb, HIA.out.but HRA.out gb, ib3, HWA.out, ab.wf HWA.out, HM2.out.but HRA.out gb, hm, by omega⟩
  have B3 := bG HB2.out hib gb
  have HK : Hid ((∀ v, Uni h a b v → v = b) ∧ (∀ v, Uni h b a v → v = b)) := ab.keep HWA.out rb
  have HT3 : Hid (Two w3 w.heap.size sb h m 0 a b) := T3
  have HB3 : Hid (Below w.heap.size w w3) := B3
  clear HBV rowb rb ab gb ib3 T3 B3 HRA HIA HM2 HS2 HB2 HMM HSH
  go_wp2_with fail
  refine (HT3.out.union HB3.out a b b HT3.out.ia HT3.out.ib HT3.out.wa HT3.out.wb HK.out.1 (by omega)).mono ?_
  rintro e w4 ⟨rfl, t4, b4, q4, p4⟩
  have HT4 : Hid (Two w4 w.heap.size sb h m (0 + 31) a b) := t4
  have HB4 : Hid (Below w.heap.size w w4) := b4
  clear t4 b4 HT3 HB3
  go_wp2_with fail
  refine (HT4.out.union HB4.out b a b HT4.out.ib HT4.out.ia HT4.out.wb HT4.out.wa HK.out.2 (by omega)).mono ?_
  rintro e w5 ⟨rfl, t5, b5, q5, p5⟩
  have HT5 : Hid (Two w5 w.heap.size sb h m (0 + 31 + 31) a b) := t5
  have HB5 : Hid (Below w.heap.size w w5) := b5
  clear t5 b5 HT4 HB4 q4 p4
  go_wp2_with fail
  refine (HT5.out.union HB5.out a .nil a HT5.out.ia trivial HT5.out.wa (WF.nil h) (fun u hu => hu.rightNil) (by omega)).mono ?_
  rintro e w6 ⟨rfl, t6, b6, q6, p6⟩
  have HT6 : Hid (Two w6 w.heap.size sb h m (0 + 31 + 31 + 31) a b) := t6
  have HB6 : Hid (Below w.heap.size w w6) := b6
  clear t6 b6 HT5 HB5 q5 p5
  go_wp2_with fail
  refine (HT6.out.union HB6.out .nil a a trivial HT6.out.ia (WF.nil h) HT6.out.wa (fun u hu => hu.leftNil) (by omega)).mono ?_
  rintro e w7 ⟨rfl, t7, b7, q7, p7⟩
  have HT7 : Hid (Two w7 w.heap.size sb h m (0 + 31 + 31 + 31 + 31) a b) := t7
  have HB7 : Hid (Below w.heap.size w w7) := b7
  clear t7 b7 HT6 HB6 q6 p6
  go_wp2_with fail
  refine (HT7.out.union HB7.out b b b HT7.out.ib HT7.out.ib HT7.out.wb HT7.out.wb (fun u hu => hu.self) (by omega)).mono ?_
  rintro e w8 ⟨rfl, t8, b8, q8, p8⟩
  have HB8 : Hid (Below w.heap.size w w8) := b8
  clear t8 b8 HT7 HB7 q7 p7
  go_wp2_with fail
  go_ret
  exact ⟨rfl, HB8.out⟩
end Go.Proofs.Ybulkakko
