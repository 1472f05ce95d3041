/-
  (*trip).within.
-/
import Derived.Test.YbulkakkoWithA
namespace Go.Proofs.Ybulkakko
open Go.RowKit
set_option linter.unusedVariables false

/-- The first of n places at which P holds: told by (good, its number from 1); where there is none by (false, n). -/
def Scan (P : Nat → Bool) (n : Nat) (good ok : Bool) (k : Nat) : Prop :=
  (∃ i, i < n ∧ P i = true ∧ (∀ j, j < i → P j = false) ∧ ok = good ∧ k = i + 1) ∨ ((∀ j, j < n → P j = false) ∧ ok = false ∧ k = n)
theorem Scan.one {P : Nat → Bool} {n : Nat} {good a b : Bool} {i j : Nat} (h : Scan P n good a i) (h' : Scan P n good b j) : a = b ∧ i = j := by
  rcases h with ⟨x, x1, x2, x3, rfl, rfl⟩ | ⟨x1, rfl, rfl⟩ <;> rcases h' with ⟨y, y1, y2, y3, rfl, rfl⟩ | ⟨y1, rfl, rfl⟩
  · rcases Nat.lt_trichotomy x y with h | h | h
    · rw [y3 x h] at x2; cases x2
    · subst h; exact ⟨rfl, rfl⟩
    · rw [x3 y h] at y2; cases y2
  · rw [y1 x x1] at x2; cases x2
  · rw [x1 y y1] at y2; cases y2
  · exact ⟨rfl, rfl⟩

def okA (rc : Nat → Bool) (l : List (Nat × Nat)) (i : Nat) : Bool := rc (l.getD i (0, 0)).1
def okI (rc wl : Nat → Bool) (ts : Nat → Int) (l : List (Nat × Nat)) (i : Nat) : Bool := rc (l.getD i (0, 0)).1 && (wl (l.getD i (0, 0)).2 && decide (0 < ts (l.getD i (0, 0)).2))

variable {tb sb wb gb RC TS LB WL IN AC L R : Nat} {rc wl : Nat → Bool} {ts : Nat → Int} {A I : Nat → List (Nat × Nat)}

theorem Laid.hold {w w1 : World} (H : Laid w tb sb wb gb RC TS LB WL IN AC L R rc wl ts A I) (hb : Below w.heap.size w w1) (s : Nat) (hs : s < L + R) (h8 : L + R ≤ 8) :
    Calls Yba.prog 21 #[.pointer (some ⟨tb, 0, none⟩), .int .i64 s] w1 fun e w' => e = .returned (.bool (decide (0 < ts s))) ∧ w' = w1 :=
  holds_any tb TS (L + R) s (ts s) w1 (Below.old hb H.t27) (Below.old hb H.t10) hs h8 (Below.old hb (H.tss s hs).1) (H.tss s hs).2
theorem Laid.pass {w w1 : World} (H : Laid w tb sb wb gb RC TS LB WL IN AC L R rc wl ts A I) (hb : Below w.heap.size w w1) (s : Nat) (hs : s < L + R) (h8 : L + R ≤ 8) :
    Calls Yba.prog 15 #[.pointer (some ⟨tb, 0, none⟩), .int .i64 s] w1 fun e w' => e = .returned (.bool (decide (0 < ts s))) ∧ w' = w1 :=
  passable_any tb TS (L + R) s (ts s) w1 (Below.old hb H.t20) (Below.old hb H.t22) (Below.old hb H.t27) (Below.old hb H.t10) hs h8 (Below.old hb (H.tss s hs).1) (H.tss s hs).2

set_option maxHeartbeats 1000000 in
set_option maxRecDepth 100000 in
theorem within_A (s : Nat) (w : World) (H : Laid w tb sb wb gb RC TS LB WL IN AC L R rc wl ts A I) (hL : L ≤ 4) (hR : R ≤ 4) (hs : s < L) (hlen : (A s).length ≤ 1024) :
    Calls Yba.prog 16 #[.pointer (some ⟨tb, 0, none⟩), .int .i64 s] w fun e w' => ∃ ok k, e = .returned (.tuple #[.bool ok, .int .i64 (k : Nat)]) ∧ Scan (okA rc (A s)) (A s).length (decide (0 < ts s)) ok k ∧ Below w.heap.size w w' := by
  obtain ⟨v, hv, hA⟩ := H.acs s hs
  obtain ⟨p, c, rfl, hA2⟩ := hA
  have HH : Hid _ := H
  have HA : Hid _ := hA2
  have t0 := H.t0
  have t15 := H.t15
  have s7 := H.s7
  have g2 := H.g2
  generalize hl : A s = l at *
  clear hA2 H
  have hsi : (s : Int) < (L : Int) := by omega
  go_enter Yba.func16, Yba.ntmps16
  go_wp2
  go_loopg [7, 8, 33] l.length (fun kx s7 s8 s33 wr => ∃ (k : Nat), k ≤ l.length ∧ kx = l.length - k ∧ s33 = .int .i64 k ∧ (∀ j, j < k → okA rc l j = false) ∧ Below w.heap.size w wr)
  case atStart => exact ⟨0, Nat.zero_le _, rfl, rfl, fun j hj => by omega, Below.refl _ _⟩
  case round =>
    obtain ⟨k, hk, hkx, rfl, hno, hbel⟩ := hrel
    have hsz := hbel.size
    have t5 : wr.cell? ⟨tb, 5, none⟩ = _ := Below.old hbel HH.out.t5
    have t15 : wr.cell? ⟨tb, 15, none⟩ = _ := Below.old hbel t15
    have g2 : wr.cell? ⟨gb, 2, none⟩ = _ := Below.old hbel g2
    have hv : wr.cell? ⟨AC, s, none⟩ = _ := Below.old hbel hv
    by_cases hlt : k < l.length
    · obtain ⟨g, rfl, hcs⟩ := HA.out (by omega)
      obtain ⟨fb, x, vb, a1, a2, a3, a4, a5, a6, a7⟩ := hcs k hlt
      have hrc := Below.old hbel (HH.out.rcs _ a6)
      have a1 := Below.old hbel a1
      have a2 := Below.old hbel a2
      have a3 := Below.old hbel a3
      have a4 := Below.old hbel a4
      have ltb : tb < wr.heap.size := below_lt t5
      have lfb : fb < wr.heap.size := below_lt a4
      have lrc : RC < wr.heap.size := below_lt hrc
      have hki : (k : Int) < (l.length : Int) := by omega
      have hfi : (((l.getD k (0, 0)).1 : Nat) : Int) < (R : Int) := by omega
      have HN : Hid _ := hno
      have hok : okA rc l k = rc (l.getD k (0, 0)).1 := rfl
      generalize (l.getD k (0, 0)).1 = fi at *
      clear hcs hno a5 a7
      generalize hr : rc fi = r at *
      have HO : Hid _ := hok
      clear hok hr
      cases r
      · go_wp2_with fail
        go_quiet (fail)
        go_wp2_with fail
        go_roundg (l.length - (k + 1))
        case measure => omega
        case rel =>
          refine ⟨k + 1, by omega, rfl, by go_num, fun j hj => ?_, belowD (hbel.alloc hsz _) _⟩
          by_cases hjk : j = k
          · subst hjk; exact HO.out
          · exact HN.out j (by omega)
      · go_wp2_with fail
        go_quiet (fail)
        go_wp2_with fail
        refine (HH.out.hold (belowD (hbel.alloc hsz _) _) s (by omega) (by omega)).mono ?_
        rintro e w1 ⟨rfl, rfl⟩
        go_wp2
        go_ret2
        exact ⟨_, k + 1, rfl, .inl ⟨k, hlt, HO.out, HN.out, rfl, rfl⟩, belowD (hbel.alloc hsz _) _⟩
    · obtain rfl : k = l.length := by omega
      go_wp2_with fail
      go_quiet (fail)
      go_wp2
      go_ret2
      exact ⟨_, _, rfl, .inr ⟨hno, rfl, rfl⟩, belowD hbel _⟩

set_option maxHeartbeats 1000000 in
set_option maxRecDepth 100000 in
theorem within_I (s : Nat) (w : World) (H : Laid w tb sb wb gb RC TS LB WL IN AC L R rc wl ts A I) (hL : L ≤ 4) (hR : R ≤ 4) (hs : s < R) (hlen : (I s).length ≤ 1024) :
    Calls Yba.prog 16 #[.pointer (some ⟨tb, 0, none⟩), .int .i64 ((L : Int) + (s : Int))] w fun e w' => ∃ ok k, e = .returned (.tuple #[.bool ok, .int .i64 (k : Nat)]) ∧ Scan (okI rc wl ts (I s)) (I s).length (decide (0 < ts (L + s))) ok k ∧ Below w.heap.size w w' := by
  obtain ⟨v, hv, hA⟩ := H.ins s hs
  obtain ⟨p, c, rfl, hA2⟩ := hA
  have HH : Hid _ := H
  have HA : Hid _ := hA2
  have t0 := H.t0
  have t15 := H.t15
  have s7 := H.s7
  have g1 := H.g1
  generalize hl : I s = l at *
  clear hA2 H
  have hsi : (s : Int) < (R : Int) := by omega
  have hge : ¬ ((L : Int) + (s : Int) < (L : Int)) := by omega
  have hsub : (L : Int) + (s : Int) - (L : Int) = (s : Int) := by omega
  go_enter Yba.func16, Yba.ntmps16
  go_wp2_with fail
  go_quiet (fail)
  go_wp2_with fail
  generalize hw0 : w.drewN nq = w0
  have hb0 : Below w.heap.size w w0 := by rw [← hw0]; exact belowD (Below.refl _ _) _
  clear hw0
  go_loopg [9, 10, 83] l.length (fun kx s7 s8 s33 wr => ∃ (k : Nat), k ≤ l.length ∧ kx = l.length - k ∧ s33 = .int .i64 k ∧ (∀ j, j < k → okI rc wl ts l j = false) ∧ Below w.heap.size w wr)
  case atStart => exact ⟨0, Nat.zero_le _, rfl, rfl, fun j hj => by omega, hb0⟩
  case round =>
    obtain ⟨k, hk, hkx, rfl, hno, hbel⟩ := hrel
    have hsz := hbel.size
    have t5 : wr.cell? ⟨tb, 5, none⟩ = _ := Below.old hbel HH.out.t5
    have t15 : wr.cell? ⟨tb, 15, none⟩ = _ := Below.old hbel t15
    have s7 : wr.cell? ⟨sb, 7, none⟩ = _ := Below.old hbel s7
    have s20 : wr.cell? ⟨sb, 20, none⟩ = _ := Below.old hbel HH.out.s20
    have w7 : wr.cell? ⟨wb, 7, none⟩ = _ := Below.old hbel HH.out.w7
    have g1 : wr.cell? ⟨gb, 1, none⟩ = _ := Below.old hbel g1
    have hv : wr.cell? ⟨IN, s, none⟩ = _ := Below.old hbel hv
    by_cases hlt : k < l.length
    · obtain ⟨g, rfl, hcs⟩ := HA.out (by omega)
      obtain ⟨fb, x, vb, a1, a2, a3, a4, a5, a6, a7⟩ := hcs k hlt
      have hrc := Below.old hbel (HH.out.rcs _ a6)
      have hwl := Below.old hbel (HH.out.wls _ a7)
      have a1 := Below.old hbel a1
      have a2 := Below.old hbel a2
      have a3 := Below.old hbel a3
      have a4 := Below.old hbel a4
      have a5 := Below.old hbel a5
      have ltb : tb < wr.heap.size := below_lt t5
      have lsb : sb < wr.heap.size := below_lt s7
      have lwb : wb < wr.heap.size := below_lt w7
      have lfb : fb < wr.heap.size := below_lt a4
      have lvb : vb < wr.heap.size := below_lt a5
      have lrc : RC < wr.heap.size := below_lt hrc
      have lwl : WL < wr.heap.size := below_lt hwl
      have hki : (k : Int) < (l.length : Int) := by omega
      have hfi : (((l.getD k (0, 0)).1 : Nat) : Int) < (R : Int) := by omega
      have hvi : (((l.getD k (0, 0)).2 : Nat) : Int) < (L : Int) := by omega
      have HN : Hid _ := hno
      have hok : okI rc wl ts l k = (rc (l.getD k (0, 0)).1 && (wl (l.getD k (0, 0)).2 && decide (0 < ts (l.getD k (0, 0)).2))) := rfl
      generalize (l.getD k (0, 0)).1 = fi at *
      generalize (l.getD k (0, 0)).2 = vi at *
      have hpass := fun (o : Obj) (n : Nat) => HH.out.pass (belowD (hbel.alloc hsz o) n) vi (by omega) (by omega)
      have HPs : Hid _ := hpass
      clear hcs hno hpass
      generalize hr : rc fi = r at *
      generalize hr2 : wl vi = r2 at *
      generalize hr3 : decide (0 < ts vi) = r3 at *
      have HO : Hid _ := hok
      clear hok hr hr2 hr3
      cases r
      · go_wp2_with fail
        go_quiet ((go_at_call 15; exact Calls.quiet_of_same (HPs.out _ _)))
        go_wp2_with fail
        go_roundg (l.length - (k + 1))
        case measure => omega
        case rel =>
          refine ⟨k + 1, by omega, rfl, by go_num, fun j hj => ?_, belowD (hbel.alloc hsz _) _⟩
          by_cases hjk : j = k
          · subst hjk; exact HO.out
          · exact HN.out j (by omega)
      · cases r2
        · go_wp2_with fail
          go_quiet ((go_at_call 15; exact Calls.quiet_of_same (HPs.out _ _)))
          go_wp2_with fail
          go_roundg (l.length - (k + 1))
          case measure => omega
          case rel =>
            refine ⟨k + 1, by omega, rfl, by go_num, fun j hj => ?_, belowD (hbel.alloc hsz _) _⟩
            by_cases hjk : j = k
            · subst hjk; exact HO.out
            · exact HN.out j (by omega)
        · cases r3
          · go_wp2_with fail
            go_quiet ((go_at_call 15; exact Calls.quiet_of_same (HPs.out _ _)))
            go_wp2_with fail
            go_roundg (l.length - (k + 1))
            case measure => omega
            case rel =>
              refine ⟨k + 1, by omega, rfl, by go_num, fun j hj => ?_, belowD (hbel.alloc hsz _) _⟩
              by_cases hjk : j = k
              · subst hjk; exact HO.out
              · exact HN.out j (by omega)
          · go_wp2_with fail
            go_quiet ((go_at_call 15; exact Calls.quiet_of_same (HPs.out _ _)))
            go_wp2_with fail
            refine (HH.out.hold (belowD (hbel.alloc hsz _) _) (L + s) (by omega) (by omega)).mono ?_
            rintro e w1 ⟨rfl, rfl⟩
            go_wp2
            go_ret2
            exact ⟨_, k + 1, rfl, .inl ⟨k, hlt, HO.out, HN.out, rfl, rfl⟩, belowD (hbel.alloc hsz _) _⟩
    · obtain rfl : k = l.length := by omega
      go_wp2_with fail
      go_quiet (fail)
      go_wp2
      go_ret2
      exact ⟨_, _, rfl, .inr ⟨hno, rfl, rfl⟩, belowD hbel _⟩
end Go.Proofs.Ybulkakko
