/- LawS1808AMembers: its walk. -/
import Derived.Test.YbulkakkoHas
import Derived.Test.YbulkakkoKeep
namespace Go.Proofs.Ybulkakko
open Go.RowKit
set_option linter.unusedVariables false
set_option linter.unusedSimpArgs false

set_option maxRecDepth 100000 in
set_option maxHeartbeats 8000000 in
theorem members_walk (a0 : Int) (a1 : Option Addr) (len1 cap1 : Nat) (f1 : Nat → Int) (a2 : Option Addr) (len2 cap2 : Nat) (f2 : Nat → Int) (w : World) (h0 : 0 ≤ a0 ∧ a0 < 65536) (hl1 : len1 ≤ 1024) (hl2 : len2 ≤ 1024) (r1 : Raw w a1 len1 f1) (r2 : Raw w a2 len2 f2) :
    Calls Yba.prog 3 #[.int .u16 a0, .slice a1 len1 cap1, .slice a2 len2 cap2] w fun e w' => e = .returned (.bool true) ∧ Below w.heap.size w w' := by
  obtain ⟨i4, hi4, hz4, hs4, hb4⟩ := info_parts Yba.info4'
  have d1 : decide ((1024 : Int) < (len1 : Int)) = false := decide_eq_false (by omega)
  have d2 : decide ((1024 : Int) < (len2 : Int)) = false := decide_eq_false (by omega)
  obtain ⟨n, hn⟩ : ∃ n : Nat, 1 + a0 % 2048 = (n : Int) := ⟨(1 + a0 % 2048).toNat, by omega⟩
  have hn1 : 1 ≤ n ∧ n ≤ 2048 := by omega
  have HR1 : Hid (Raw w a1 len1 f1) := r1
  have HR2 : Hid (Raw w a2 len2 f2) := r2
  have hnew := new_any n w hn1.2
  clear r1 r2
  go_enter Yba.func3, Yba.ntmps3
  go_wp2_with fail
  refine hnew.mono ?_
  rintro e wn ⟨h, sb, m, rfl, hh, hnM, hS, hM, hB, hm⟩
  obtain ⟨M, hMM⟩ : ∃ M, M = 64 * 2 ^ h := ⟨_, rfl⟩
  have hsh := shl64 h hh
  have hM2 : M ≤ 2048 := p2le hMM hh
  rw [← hMM] at hsh hnM
  have HSH : Hid (wrap64 (64 * 2 ^ h) = (M : Int)) := hsh
  clear hsh
  have c0 := hS.c0
  have HS : Hid (Sets wn sb h m) := hS
  have HM : Hid (MInv wn m 0) := hM
  have HMM : Hid (M = 64 * 2 ^ h) := hMM
  have HHH : Hid (h ≤ 5) := hh
  clear hS hM hMM hnew
  go_wp2_with (first
    | (at_make; refine wpList_make_full _ rfl _ _ 26 rfl wn.heap.size 4 i4 _ 1 Yba.underlying26 hi4 hz4 hs4 .i64 .i64 _ _ M rfl rfl HSH.out HSH.out (by rw [hb4]; omega) (by unfold maxLen; omega) (Nat.le_refl _) ?_; intro w1 hown1 hgrow1; have c01 : w1.cell? ⟨sb, 0, none⟩ = some (.int .i64 h) := kOld ((Below.refl _ _).grown hgrow1 (Nat.le_refl _) (fun k hk => by cases hk)) c0)
    | (at_make; refine wpList_make_full _ rfl _ _ 26 rfl w1.heap.size 4 i4 _ 1 Yba.underlying26 hi4 hz4 hs4 .i64 .i64 _ _ M rfl rfl HSH.out HSH.out (by rw [hb4]; omega) (by unfold maxLen; omega) (Nat.le_refl _) ?_; intro w2 hown2 hgrow2))
  have RA1 : RowG w1 4 wn.heap.size M M (fun _ => .bool false) := RowG.madeAll hown1
  have B1 : Below wn.heap.size wn w1 := (Below.refl _ _).grown hgrow1 (Nat.le_refl _) (fun k hk => by cases hk)
  have RB2 : RowG w2 4 w1.heap.size M M (fun _ => .bool false) := RowG.madeAll hown2
  have B2 : Below w1.heap.size w1 w2 := (Below.refl _ _).grown hgrow2 (Nat.le_refl _) (fun k hk => by cases hk)
  have RA2 := RA1.below B2
  have hne : wn.heap.size ≠ w1.heap.size := by have := RA1.lt; omega
  have HB2 : Hid (Below w.heap.size w w2) := kT (kT hB B1) B2
  have hS2 := (HS.out.below B1).below B2
  have HM2 : Hid (MInv w2 m 0) := (HM.out.below B1).below B2
  have hia : w.heap.size ≤ wn.heap.size := hB.size
  have hib : w.heap.size ≤ w1.heap.size := Nat.le_trans hB.size B1.size
  clear hown1 hgrow1 hown2 hgrow2 RA1 B1 B2 c0 c01 HS HM hi4 hz4 hs4 hb4 hB
  generalize wn.heap.size = ia at *
  generalize w1.heap.size = ib at *
  have hbu := build_any h sb m ia n len1 cap1 M a1 f1 (fun _ => false) .nil w2 HHH.out HMM.out hn1.1 hnM hl1 hS2 trivial RA2 (HR1.out.below HB2.out)
  have HBU : Hid (Calls Yba.prog 9 #[.pointer (some ⟨sb, 0, none⟩), .pointer none, .slice a1 len1 cap1, .int .i64 n, .slice (some ⟨ia, 0, none⟩) M M] w2 fun e w' =>
      ∃ (v : T) (zs : List Int), e = .returned (.pointer v.addr) ∧ In w' v ∧ w2.grownBy w' (some ia) ∧ AddR h 0 zs .nil v ∧ Rng h 0 zs ∧ RowG w' 4 ia M M (fun i => .bool (false || decide ((i : Int) ∈ zs)))) := hbu
  have HRA : Hid (RowG w2 4 ia M M (fun _ => .bool false)) := RA2
  have HRB : Hid (RowG w2 4 ib M M (fun _ => .bool false)) := RB2
  have HS2 : Hid (Sets w2 sb h m) := hS2
  clear hbu RA2 RB2 hS2 HR1
  go_wp2_with fail
  refine HBU.out.mono ?_
  rintro e w3 ⟨a, zs, rfl, i3, g3, aa, ra, rowa⟩
  have HB3 : Hid (Below w.heap.size w w3) := bG HB2.out hia g3
  have HWA : Hid (WF h a) := aa.wf (WF.nil h)
  have hS3 : Sets w3 sb h m := HS2.out.but HRA.out g3
  have HM3 : Hid (MInv w3 m 0) := HM2.out.but HRA.out g3
  have hRB3 : RowG w3 4 ib M M (fun _ => .bool false) := HRB.out.but g3 (Ne.symm hne)
  have HAA : Hid (AddR h 0 zs .nil a ∧ Rng h 0 zs) := ⟨aa, ra⟩
  have hbu := build_any h sb m ib n len2 cap2 M a2 f2 (fun _ => false) .nil w3 HHH.out HMM.out hn1.1 hnM hl2 hS3 trivial hRB3 (HR2.out.below HB3.out)
  have HBV : Hid (Calls Yba.prog 9 #[.pointer (some ⟨sb, 0, none⟩), .pointer none, .slice a2 len2 cap2, .int .i64 n, .slice (some ⟨ib, 0, none⟩) M M] w3 fun e w' =>
      ∃ (v : T) (ys : List Int), e = .returned (.pointer v.addr) ∧ In w' v ∧ w3.grownBy w' (some ib) ∧ AddR h 0 ys .nil v ∧ Rng h 0 ys ∧ RowG w' 4 ib M M (fun i => .bool (false || decide ((i : Int) ∈ ys)))) := hbu
  have HRA3 : Hid (RowG w3 4 ia M M (fun i => .bool (false || decide ((i : Int) ∈ zs)))) := rowa
  have HRB3 : Hid (RowG w3 4 ib M M (fun _ => .bool false)) := hRB3
  have HS3 : Hid (Sets w3 sb h m) := hS3
  have HIA : Hid (In w3 a) := i3
  clear hbu rowa hRB3 hS3 i3 g3 aa ra HBU HRA HRB HS2 HB2 HM2 HR2
  go_wp2_with fail
  refine HBV.out.mono ?_
  rintro e w4 ⟨b, ys, rfl, i4', g4, ab, rb, rowb⟩
  have HWB : Hid (WF h b) := ab.wf (WF.nil h)
  have T4 : Two w4 w.heap.size sb h m 0 a b := ⟨HHH.out, HS3.out.but HRB3.out g4, HIA.out.but HRB3.out g4, i4', HWA.out, HWB.out, HM3.out.but HRB3.out g4, hm, by omega⟩
  have HT4 : Hid (Two w4 w.heap.size sb h m 0 a b) := T4
  have HB4 : Hid (Below w.heap.size w w4) := bG HB3.out hib g4
  have HRA4 : Hid (RowG w4 4 ia M M (fun i => .bool (false || decide ((i : Int) ∈ zs)))) := HRA3.out.but g4 hne
  have HRB4 : Hid (RowG w4 4 ib M M (fun i => .bool (false || decide ((i : Int) ∈ ys)))) := rowb
  have HAB : Hid (AddR h 0 ys .nil b ∧ Rng h 0 ys) := ⟨ab, rb⟩
  have hun := union_any h HHH.out sb m 0 a b w4 T4.sets.c0 T4.sets.c3 T4.ia T4.ib T4.wa T4.wb T4.mi (by have := cst_le HHH.out; omega)
  have HUN : Hid (Calls Yba.prog 10 #[.pointer (some ⟨sb, 0, none⟩), .pointer a.addr, .pointer b.addr] w4 fun e w' =>
      ∃ v : T, e = .returned (.pointer v.addr) ∧ In w' v ∧ Fr m w4 w' ∧ MInv w' m (0 + cst h) ∧ Uni h a b v) := hun
  clear hun T4 i4' g4 ab rb rowb HBV HRA3 HRB3 HS3 HIA HM3 HB3
  go_wp2_with fail
  refine HUN.out.mono ?_
  rintro e w5 ⟨u, rfl, iu, f5, -, hu⟩
  have c0 := (HT4.out.sets.fr f5).c0
  have HRA5 : Hid (RowG w5 4 ia M M (fun i => .bool (false || decide ((i : Int) ∈ zs)))) := HRA4.out.fr f5
  have HRB5 : Hid (RowG w5 4 ib M M (fun i => .bool (false || decide ((i : Int) ∈ ys)))) := HRB4.out.fr f5
  have HB5 : Hid (Below w.heap.size w w5) := bG HB4.out hm f5.gr
  have HWU : Hid (WF h u) := hu.wf HWA.out HWB.out
  have HIU : Hid (In w5 u) := iu
  have HAS : Hid (∀ k, k < M → hasT h u k = ((false || decide ((k : Int) ∈ zs)) || (false || decide ((k : Int) ∈ ys)))) := fun k hk => by
    have hk' := hk
    rw [HMM.out] at hk'
    rw [hu.has HWA.out HWB.out k, HAA.out.1.has (WF.nil h) HAA.out.2 0 (by simp) k (Nat.zero_le _) (by omega), HAB.out.1.has (WF.nil h) HAB.out.2 0 (by simp) k (Nat.zero_le _) (by omega)]
    simp [hasT_nil]
  have hlen := len_any u w5 iu
  have hcnt := len_cnt h u M HMM.out HHH.out HWU.out
  rw [hcnt] at hlen
  have hpos : u ≠ .nil → 0 < cntU (hasT h u) M := fun hne => by
    have := len_pos h u HHH.out HWU.out hne
    omega
  have HPOS : Hid (u ≠ .nil → 0 < cntU (hasT h u) M) := hpos
  clear iu f5 hu hcnt hpos HUN HT4 HB4 HRA4 HRB4 HAB HAA HWA HWB
  go_wp2
  go_loop [14, 15, 16] (fun s14 s15 s16 => ∃ (k : Nat), k ≤ M ∧ s14 = .int .i64 (cntU (hasT h u) k : Nat) ∧ s15 = .int .i64 k) (fun _ s15 _ => M - (intOf s15).toNat)
  case atStart => exact ⟨0, Nat.zero_le _, rfl, rfl⟩
  case round =>
    obtain ⟨k, hk, rfl, rfl⟩ := hrel
    by_cases hlt : k < M
    · have q1 : w5.cell? ⟨ia, k, none⟩ = some (.bool (false || decide ((k : Int) ∈ zs))) := HRA5.out.cell hlt
      have q2 : w5.cell? ⟨ib, k, none⟩ = some (.bool (false || decide ((k : Int) ∈ ys))) := HRB5.out.cell hlt
      have q3 := HAS.out k hlt
      have hki : (k : Int) < (M : Int) := by omega
      have hhas := has_any h sb k u w5 HHH.out (by omega) c0 HIU.out HWU.out
      have hc : cntU (hasT h u) (k + 1) = cntU (hasT h u) k + (hasT h u k).toNat := rfl
      have hle := cntU_le (hasT h u) k
      generalize (false || decide ((k : Int) ∈ zs)) = p at q1 q3
      generalize (false || decide ((k : Int) ∈ ys)) = q at q2 q3
      rw [q3] at hhas hc
      have HC : Hid (cntU (hasT h u) (k + 1) = cntU (hasT h u) k + (p || q).toNat) := hc
      clear hc q3
      generalize hcc : cntU (hasT h u) k = c at hle
      have HCC : Hid (cntU (hasT h u) k = c) := hcc
      clear hcc
      cases p
      · cases q
        · replace hhas : Calls Yba.prog 11 #[.pointer (some ⟨sb, 0, none⟩), .pointer u.addr, .int .i64 k] w5 fun e w' => e = .returned (.bool false) ∧ w' = w5 := hhas
          go_wp2_with (go_at_call 11; refine hhas.mono ?_; rintro e w' ⟨rfl, rfl⟩)
          go_round
          case measure => simp only [intOf]; omega
          case rel => exact ⟨k + 1, by omega, by rw [HC.out, HCC.out]; rfl, by go_num⟩
        · replace hhas : Calls Yba.prog 11 #[.pointer (some ⟨sb, 0, none⟩), .pointer u.addr, .int .i64 k] w5 fun e w' => e = .returned (.bool true) ∧ w' = w5 := hhas
          go_wp2_with (go_at_call 11; refine hhas.mono ?_; rintro e w' ⟨rfl, rfl⟩)
          go_round
          case measure => simp only [intOf]; omega
          case rel => exact ⟨k + 1, by omega, by rw [HC.out, HCC.out]; go_num, by go_num⟩
      · replace hhas : Calls Yba.prog 11 #[.pointer (some ⟨sb, 0, none⟩), .pointer u.addr, .int .i64 k] w5 fun e w' => e = .returned (.bool true) ∧ w' = w5 := hhas
        go_wp2_with (go_at_call 11; refine hhas.mono ?_; rintro e w' ⟨rfl, rfl⟩)
        go_round
        case measure => simp only [intOf]; omega
        case rel => exact ⟨k + 1, by omega, by rw [HC.out, HCC.out]; go_num, by go_num⟩
    · obtain rfl : k = M := by omega
      by_cases hnil : u = .nil
      · have hnn := neq_nil w5 u
        rw [decide_eq_true hnil] at hnn
        clear hnil
        generalize cntU (hasT h u) k = c at *
        go_wp2_with (go_at_call 12; refine hlen.mono ?_; rintro e w' ⟨rfl, rfl⟩)
        all_goals go_ret
        all_goals exact ⟨rfl, HB5.out⟩
      · have hp := HPOS.out hnil
        have hnn := neq_nil w5 u
        rw [decide_eq_false hnil] at hnn
        generalize cntU (hasT h u) k = c at *
        go_wp2_with (go_at_call 12; refine hlen.mono ?_; rintro e w' ⟨rfl, rfl⟩)
        go_ret
        exact ⟨rfl, HB5.out⟩
end Go.Proofs.Ybulkakko
