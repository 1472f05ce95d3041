/-
  The proof of 'Rows.LawS1801BBetweenSaid': the frame is the kit's tool's (proof-skeleton), the walk is ours.
-/
import Derived.Test.YbulkakguWalkC
import Derived.WalkKit
import Derived.ProofKit
import Derived.OpenShut
import Derived.ShutString
import Derived.ChangeOld
import Derived.Below
namespace Go.Proofs.Ybulkakgu.lawS1801BBetween
open Go.ChangeShapes Go.WideShapes Go.ChangeAt Go.RowKit
open Go.ChangeMaps (open_string shut_string)
set_option linter.unusedVariables false

theorem own : ownKnob Yba.prog.godebug = none := by kernel_rfl
theorem laidOut : laidOutB Yba.prog = true := by kernel_rfl

/-- WHAT THE WALK IS TOLD OF A SLICE OF INTEGERS THAT CAME IN: it is nil; or it leads to a row of 'cap' cells, the numbers 'zs' (the first 'len' are its elements, the rest its spare room), each fitting its kind. -/
def IsRow (k : IntKind) (w : World) (a : Option Addr) (len cap : Nat) (zs : List Int) : Prop :=
  (a = none ∧ len = 0 ∧ cap = 0 ∧ zs = []) ∨
  ∃ x, a = some x ∧ len ≤ cap ∧ cap ≤ maxLen ∧ zs.length = cap ∧ (∀ i, i < zs.length → w.cell? (x.add i) = some (.int k (zs.getD i 0))) ∧ ∀ n ∈ zs, (Lit.int k n).wf = true

/-! ### STEP 1: THE WALK: the Go text returns true, AND WRITES NOTHING THAT WAS THERE: 'Below w.heap.size w w'' (Derived/Below.lean: '.refl', '.alloc', '.drew', '.setCell' at a new block, '.trans'). Open each 'IsRow' by 'rcases' AHEAD of 'go_enter'; part every test ahead of the walk. -/
/-- What the law's loop computes: some number lies in [fr, to). -/
def inR (fr to : Int) (zs : List Int) : Bool := zs.any fun z => decide (fr ≤ z) && decide (z < to)
theorem inR_snoc (fr to : Int) (zs : List Int) (k : Nat) (h : k < zs.length) : inR fr to (zs.take (k + 1)) = (inR fr to (zs.take k) || (decide (fr ≤ zs.getD k 0) && decide (zs.getD k 0 < to))) := by
  unfold inR
  rw [List.take_succ_eq_append_getElem h, List.any_append, getD_lt _ _ h]
  simp
theorem inR_hit (fr to : Int) (zs : List Int) (k : Nat) (h : k < zs.length) (h1 : fr ≤ zs.getD k 0) (h2 : zs.getD k 0 < to) : inR fr to (zs.take (k + 1)) = true := by
  rw [inR_snoc _ _ _ _ h, decide_eq_true h1, decide_eq_true h2]; simp
theorem inR_miss (fr to : Int) (zs : List Int) (k : Nat) (h : k < zs.length) (h1 : ¬ (fr ≤ zs.getD k 0 ∧ zs.getD k 0 < to)) : inR fr to (zs.take (k + 1)) = inR fr to (zs.take k) := by
  rw [inR_snoc _ _ _ _ h]
  by_cases h2 : fr ≤ zs.getD k 0
  · rw [decide_eq_false (p := zs.getD k 0 < to) (fun h3 => h1 ⟨h2, h3⟩)]; simp
  · rw [decide_eq_false h2]; simp

theorem between_out (DB : Nat) (v : Value) (zs : List Int) (fr to : Int) (w : World) (hn : zs.length ≤ 1024) (hB : w.cell? ⟨DB, 5, none⟩ = some v) (hS : Snaps w v (zs.mergeSort fun x y => decide (x ≤ y))) :
    Calls Yba.prog 7 #[.pointer (some ⟨DB, 0, none⟩), .int .u64 fr, .int .u64 to] w fun e w' => e = .returned (.bool (inR fr to zs)) ∧ w' = w := by
  have h := between_any DB v _ fr to w (by simpa using hn) hB hS (fun i j hij hj => sorted_getD zs i j hij hj)
  rw [any_sorted] at h
  exact h

theorem walk_big (a0 : Option Addr) (len0 cap0 : Nat) (a1 a2 : Int) (w : World) (hbig : 1024 < len0) :
    Calls Yba.prog 4 #[.slice a0 len0 cap0, .int .u64 a1, .int .u64 a2] w fun e w' => e = .returned (.bool true) ∧ Below w.heap.size w w' := by
  go_enter Yba.func4, Yba.ntmps4
  go_wp2
  go_ret
  exact ⟨rfl, Below.refl _ _⟩

set_option maxHeartbeats 1000000 in
theorem walk_none (a0 : Option Addr) (cap0 : Nat) (a1 a2 : Int) (w : World) (hdb : Calls Yba.prog 5 #[.slice a0 0 cap0] w (DbOut w [])) :
    Calls Yba.prog 4 #[.slice a0 0 cap0, .int .u64 a1, .int .u64 a2] w fun e w' => e = .returned (.bool true) ∧ Below w.heap.size w w' := by
  go_enter Yba.func4, Yba.ntmps4
  go_wp2_with fail
  refine hdb.mono ?_
  rintro e w1 ⟨DB, v, rfl, hB, hS, hbel⟩
  go_wp2_with fail
  refine wp_loop_rounds 1 ?_
  rw [rounds_succ]
  have hbt := between_out DB v [] a1 a2 w1 (by simp) hB hS
  clear hB hS
  go_wp2_with (go_at_call 7; refine hbt.mono ?_; rintro e w' ⟨rfl, rfl⟩)
  go_ret
  exact ⟨rfl, hbel⟩

set_option maxHeartbeats 1000000 in
theorem walk_some (b off len0 cap0 : Nat) (zs : List Int) (a1 a2 : Int) (w : World) (hl : zs.length = len0) (hn : len0 ≤ 1024) (hpos : 0 < len0) (hc : ∀ i, i < len0 → w.cell? ⟨b, off + i, none⟩ = some (.int .u64 (zs.getD i 0))) :
    Calls Yba.prog 4 #[.slice (some ⟨b, off, none⟩) len0 cap0, .int .u64 a1, .int .u64 a2] w fun e w' => e = .returned (.bool true) ∧ Below w.heap.size w w' := by
  have hdb := db_row ⟨b, off, none⟩ len0 cap0 zs w hn hl (by intro i hi; rw [Addr.add_lit]; exact hc i hi)
  have hblk : b < w.heap.size := by
    have := hc 0 hpos
    rcases Nat.lt_or_ge b w.heap.size with h | h
    · exact h
    · simp [World.cell?, Array.getElem?_eq_none h] at this
  go_enter Yba.func4, Yba.ntmps4
  go_wp2_with fail
  refine hdb.mono ?_
  rintro e w1 ⟨DB, v, rfl, hB, hS, hbel⟩
  have hbt := between_out DB v zs a1 a2 w1 (by omega) hB hS
  have HC : Hid (∀ i, i < len0 → w1.cell? ⟨b, off + i, none⟩ = some (.int .u64 (zs.getD i 0))) := fun i hi => by rw [hbel.cell (by exact hblk)]; exact hc i hi
  clear hB hS hc
  go_wp2_with fail
  go_loopg [8, 18] len0 (fun kx s8 s18 wr => ∃ k : Nat, k ≤ len0 ∧ kx = len0 - k ∧ s18 = .int .i64 k ∧ s8 = .bool (inR a1 a2 (zs.take k)) ∧ wr = w1)
  case atStart => exact ⟨0, Nat.zero_le _, rfl, rfl, rfl, rfl⟩
  case round =>
    obtain ⟨k, hk, hkx, rfl, rfl, rfl⟩ := hrel
    by_cases hlt : k < len0
    · have ck := HC.out k hlt
      have hh := inR_hit a1 a2 zs k (by omega)
      have hm := inR_miss a1 a2 zs k (by omega)
      generalize zs.getD k 0 = z at ck hh hm
      have HH : Hid _ := hh
      have HM : Hid _ := hm
      clear hh hm
      by_cases h1 : a1 ≤ z
      · by_cases h2 : z < a2
        · go_wp2
          go_roundg (len0 - (k + 1))
          case measure => omega
          case rel => exact ⟨k + 1, by omega, rfl, by go_num, by rw [HH.out h1 h2], rfl⟩
        · go_wp2
          go_roundg (len0 - (k + 1))
          case measure => omega
          case rel => exact ⟨k + 1, by omega, rfl, by go_num, by rw [HM.out (fun h => by omega)], rfl⟩
      · go_wp2
        go_roundg (len0 - (k + 1))
        case measure => omega
        case rel => exact ⟨k + 1, by omega, rfl, by go_num, by rw [HM.out (fun h => by omega)], rfl⟩
    · obtain rfl : k = len0 := by omega
      have e : zs.take k = zs := List.take_of_length_le (by omega)
      rw [e]
      generalize inR a1 a2 zs = bb at hbt
      clear e
      go_wp2_with (go_at_call 7; refine hbt.mono ?_; rintro e w' ⟨rfl, rfl⟩)
      go_ret
      exact ⟨by simp, hbel⟩

theorem walk (a0 : Option Addr) (len0 cap0 : Nat) (z0 : List Int) (a1 : Int) (a2 : Int) (w : World) (w0 : IsRow .u64 w a0 len0 cap0 z0) (w1 : (Lit.int .u64 a1).wf = true) (w2 : (Lit.int .u64 a2).wf = true) :
    Calls Yba.prog 4 #[.slice a0 len0 cap0, .int .u64 a1, .int .u64 a2] w fun e w' => e = .returned (.bool true) ∧ Below w.heap.size w w' := by
  by_cases hbig : 1024 < len0
  · exact walk_big a0 len0 cap0 a1 a2 w hbig
  rcases w0 with ⟨rfl, rfl, rfl, rfl⟩ | ⟨x, rfl, hlc, hcm, hzl, hcell, hwf⟩
  · exact walk_none none 0 a1 a2 w (db_nil w 0 0)
  · by_cases h0 : len0 = 0
    · subst h0
      exact walk_none (some x) cap0 a1 a2 w (db_row x 0 cap0 [] w (by omega) rfl (fun i hi => absurd hi (Nat.not_lt_zero _)))
    · obtain ⟨b, off, rfl, hc⟩ := ints_at hcell (by omega)
      refine walk_some b off len0 cap0 (z0.take len0) a1 a2 w (by simp; omega) (by omega) (by omega) ?_
      intro i hi
      rw [hc i (by omega)]
      simp [List.getD, List.getElem?_take_of_lt hi]

/-! ### THE ROW's STEP: WRITTEN OUT: LEAVE IT -/
set_option maxRecDepth 100000 in
theorem lifted (os : Os) (started : os.Started) (H : Type) (enc : TypeId × Value → H) :
    ReturnsInHanded {} Yba.checked os 4 .any (Rows.lawS1801BBetweenSpec.pre6 enc Yba.prog Yba.f4 Rows.lawS1801BBetweenRow.domain false) (Rows.lawS1801BBetweenSpec.post enc Yba.prog Yba.f4 false true false false) := by
  refine returnsInHanded_of_change (C := Yba.checked) own started (by kernel_rfl) Yba.func4
    (ChangeSpec.witness6 (enc := enc) (C := Yba.checked) false ⟨#[], #[.slice none 0 0, .int .u64 0, .int .u64 0], []⟩ 8 (by kernel_rfl) (by kernel_rfl) (by kernel_rfl) (by kernel_rfl)) ?_
  intro W base args ds gs before hval0 hW hcnd _
  have hval : ∀ (j : Nat) t v, Yba.f4.params[j]? = some t → args[j]? = some v → Value.okWide Yba.prog W .any base t v := hval0
  have hW' := hW
  obtain ⟨p, q, hA0, hV, rfl, hfz, hnd⟩ := hW
  have hA : DataW.TrodAll enc Yba.prog W 0 (fun _ => true) true Yba.f4.params.toList args.toList ds p := hA0
  rw [Yba.params4] at hA hval
  obtain ⟨v0, vs0, d0, ds0, p0, q0, hargs, rfl, rfl, h0, r0⟩ := trodAll_cons hA
  obtain ⟨v1, vs1, d1, ds1, p1, q1, rfl, rfl, rfl, h1, r1⟩ := trodAll_cons r0
  obtain ⟨v2, vs2, d2, ds2, p2, q2, rfl, rfl, rfl, h2, r2⟩ := trodAll_cons r1
  obtain ⟨rfl, rfl, rfl⟩ := trodAll_nil r2
  obtain rfl : args = #[v0, v1, v2] := by cases args; simp_all
  obtain ⟨rfl, rfl⟩ := trodVars_none hV
  obtain ⟨a0, len0, cap0, rfl⟩ := okWide_slice Yba.underlying22 (hval 0 22 v0 rfl rfl)
  have k0 := h0
  have lt0 : ∀ x ∈ p0, x.block < W.heap.size := by obtain ⟨m, hm⟩ := k0; exact DataW.trod_lt m _ _ _ hm
  obtain ⟨z0, w0⟩ : ∃ zs, IsRow .u64 W a0 len0 cap0 zs := by
    obtain ⟨fuel, hf⟩ := h0
    rcases open_ints Yba.underlying22 Yba.underlying23 (by kernel_rfl) hf with ⟨hcs, _⟩ | ⟨x, l, c, zs, hcs, _, hl, hm, hz, _, hcell, hwz⟩
    · simp [Value.cells] at hcs
      obtain ⟨rfl, rfl, rfl⟩ := hcs
      exact ⟨[], .inl ⟨rfl, rfl, rfl, rfl⟩⟩
    · simp [Value.cells] at hcs
      obtain ⟨rfl, rfl, rfl⟩ := hcs
      exact ⟨zs, .inr ⟨_, rfl, hl, hm, by simpa using hz, hcell, hwz⟩⟩
  obtain ⟨a1, rfl, rfl, rfl, w1⟩ := open_int Yba.underlying23 (hval 1 23 v1 rfl rfl) h1
  obtain ⟨a2, rfl, rfl, rfl, w2⟩ := open_int Yba.underlying23 (hval 2 23 v2 rfl rfl) h2
  clear hA0 hval0
  refine (walk a0 len0 cap0 z0 a1 a2 W w0 w1 w2).mono fun e W' ⟨he, bel⟩ => ?_
  subst he
  exact ⟨_, rfl, _, _, _, [], _, [], hW', trodAll_mk1 (shut_bool Yba.underlying4 _), (trodAll_cons_mk (Below.trod laidOut (by kernel_rfl) (of_decide_eq_true (by kernel_rfl)) k0 bel lt0) (trodAll_cons_mk (shut_int Yba.underlying23 w1) (trodAll_cons_mk (shut_int Yba.underlying23 w2) trodAll_mk0))), rfl, bel.frame _, fun h => by cases h⟩

theorem over : Rows.lawS1801BBetweenRow.holds Yba.pinned (OpenSpec.ofChange Rows.lawS1801BBetweenSpec) :=
  OpenClaim.holds_of_wide 4 Yba.f4 rfl rfl rfl rfl rfl rfl rfl ⟨rfl, rfl, rfl, rfl, rfl⟩ rfl rfl rfl rfl rfl (by kernel_rfl) Yba.func4 (by kernel_rfl)
    (of_decide_eq_true (by kernel_rfl)) (by unfold Func.isWrapper; first | (rw [if_pos (by decide +kernel)]; kernel_rfl) | (rw [if_neg (by decide +kernel)]; exact ⟨rfl, rfl⟩))
    (fun os started H enc _ => lifted os started H enc)

/-- ████ THE STATEMENT ████ -/
theorem proved : Rows.LawS1801BBetweenSaid := over
end Go.Proofs.Ybulkakgu.lawS1801BBetween
