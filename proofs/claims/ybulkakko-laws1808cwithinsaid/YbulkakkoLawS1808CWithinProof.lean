/-
  The proof of 'Rows.LawS1808CWithinSaid': the frame in the guide's own way (howto/template/XProofs.lean), for three bytes, two slices of bools, one of int8 and one of structs of three bytes.
-/
import Derived.Test.YbulkakkoRows
import Derived.WalkKit
import Derived.ProofKit
import Derived.OpenShut
import Derived.ShutString
import Derived.ChangeOld
import Derived.Below
import Derived.Deep.Grids
import Derived.Deep.Strs
import Derived.Test.YbulkakkoWithC
namespace Go.Proofs.Ybulkakko.lawS1808CWithin
open Go.ChangeShapes Go.WideShapes Go.ChangeAt Go.RowKit
open Go.ChangeMaps (open_string shut_string)
set_option linter.unusedVariables false

theorem own : ownKnob Yba.prog.godebug = none := by kernel_rfl
theorem laidOut : laidOutB Yba.prog = true := by kernel_rfl
theorem cells5 : Yba.prog.cellsOf 5 = 1 := by kernel_rfl
theorem cells77 : Yba.prog.cellsOf 77 = 3 := by kernel_rfl

theorem u8_bounds {n : Int} (h : (Lit.int .u8 n).wf = true) : 0 ≤ n ∧ n < 256 := by
  have h1 : IntKind.u8.min = 0 := rfl
  have h2 : IntKind.u8.max = 255 := rfl
  simp only [Lit.wf, Bool.and_eq_true, decide_eq_true_eq] at h
  omega

section
variable {H : Type} {enc : TypeId × Value → H} {W : World} {base : Nat} {held : Bool}

theorem bools_open {fuel : Nat} {cs : List Value} {x : DataW H × List MemPlace} (h : DataW.trod enc Yba.prog W base (fun _ => true) held fuel 26 cs = some x) :
    ∃ a len cap f, cs = [.slice a len cap] ∧ ArgB W a len f ∧ len ≤ maxLen := by
  rcases Deep.open_bools Yba.underlying26 Yba.underlying4 (by kernel_rfl) h with ⟨rfl, _⟩ | ⟨a, len, cap, B, rfl, _, hl, hm, _, hc⟩
  · exact ⟨none, 0, 0, fun _ => false, rfl, fun i hi => by omega, by unfold maxLen; omega⟩
  · exact ⟨some a, len, cap, B, rfl, fun i hi => ⟨a, rfl, hc i (by omega)⟩, by omega⟩

theorem int8s_open {fuel : Nat} {cs : List Value} {x : DataW H × List MemPlace} (h : DataW.trod enc Yba.prog W base (fun _ => true) held fuel 50 cs = some x) :
    ∃ a len cap f, cs = [.slice a len cap] ∧ ArgI W a len f ∧ len ≤ maxLen := by
  rcases open_ints Yba.underlying50 Yba.underlying74 (by kernel_rfl) h with ⟨rfl, _⟩ | ⟨a, len, cap, zs, rfl, _, hl, hm, hz, _, hc, _⟩
  · exact ⟨none, 0, 0, fun _ => 0, rfl, fun i hi => by omega, by unfold maxLen; omega⟩
  · simp only [if_true] at hz
    exact ⟨some a, len, cap, fun i => zs.getD i 0, rfl, fun i hi => ⟨a, rfl, hc i (by omega)⟩, by omega⟩

set_option maxRecDepth 100000 in
theorem arcs_open {fuel : Nat} {cs : List Value} {x : DataW H × List MemPlace} (h : DataW.trod enc Yba.prog W base (fun _ => true) held fuel 51 cs = some x) :
    ∃ a len cap f, cs = [.slice a len cap] ∧ ArgA W a len f := by
  rcases Deep.open_slice Yba.underlying51 h with ⟨rfl, _⟩ | ⟨a, len, cap, m, n, D, Pl, rfl, hb, hl, hm, hmm, _, hx⟩
  · exact ⟨none, 0, 0, fun _ => (0, 0, 0), rfl, fun i hi => by omega⟩
  · have hlm : len ≤ m := by rw [hmm]; simp only [if_true]; omega
    have each : ∀ i, i < len → ∃ s : Int × Int × Int, W.cell? (a.add (i * 3)) = some (.int .u8 s.1) ∧ W.cell? (a.add (i * 3 + 1)) = some (.int .u8 s.2.1) ∧ W.cell? (a.add (i * 3 + 2)) = some (.int .u8 s.2.2) ∧
        (0 ≤ s.1 ∧ s.1 < 256) ∧ (0 ≤ s.2.1 ∧ s.2.1 < 256) ∧ (0 ≤ s.2.2 ∧ s.2.2 < 256) := by
      intro i hi
      obtain ⟨cs', h1, h2⟩ := hx i (by omega)
      rw [cells77] at h1
      obtain ⟨_, hlen, hcell⟩ := World.cells?_some h1
      obtain ⟨y0, y1, y2, k, hxy, _, g0, g1, g2⟩ := Deep.trod_struct3 Yba.underlying77 h2
      match cs', hlen with
      | [v0, v1, v2], _ =>
        simp [cells5] at g0 g1 g2
        obtain ⟨q0, e0, _, b0⟩ := DataW.trod_int Yba.underlying5 g0
        obtain ⟨q1, e1, _, b1⟩ := DataW.trod_int Yba.underlying5 g1
        obtain ⟨q2, e2, _, b2⟩ := DataW.trod_int Yba.underlying5 g2
        simp only [List.cons.injEq, and_true] at e0 e1 e2
        subst e0 e1 e2
        have c0 := hcell 0 (by omega)
        have c1 := hcell 1 (by omega)
        have c2 := hcell 2 (by omega)
        rw [Deep.add_add] at c0 c1 c2
        exact ⟨(q0, q1, q2), by simpa using c0, by simpa using c1, by simpa using c2, u8_bounds b0, u8_bounds b1, u8_bounds b2⟩
    obtain ⟨f, hf⟩ := @Deep.choose_lt (Int × Int × Int) ⟨(0, 0, 0)⟩ _ _ each
    refine ⟨some a, len, cap, f, rfl, fun i hi => ?_⟩
    obtain ⟨b, off, sp⟩ := a
    have hs : sp = none := by
      have := (hf 0 (by omega)).1
      simpa [Addr.add] using World.cell?_spot this
    subst hs
    obtain ⟨c0, c1, c2, r⟩ := hf i hi
    simp only [Addr.add_lit] at c0 c1 c2
    exact ⟨b, off, rfl, c0, by rw [Nat.add_assoc]; exact c1, by rw [Nat.add_assoc]; exact c2, r⟩
end

set_option maxHeartbeats 1000000 in
set_option maxRecDepth 100000 in
theorem walk (a0 a1 a2 : Int) (a3 a4 a5 a6 : Option Addr) (len3 cap3 len4 cap4 len5 cap5 len6 cap6 : Nat) (fr fo : Nat → Bool) (ft : Nat → Int) (fa : Nat → Int × Int × Int) (w : World)
    (w0 : 0 ≤ a0 ∧ a0 < 256) (w1 : 0 ≤ a1 ∧ a1 < 256) (w2 : 0 ≤ a2 ∧ a2 < 256) (hr : ArgB w a3 len3 fr) (ho : ArgB w a4 len4 fo) (ht : ArgI w a5 len5 ft) (ha : ArgA w a6 len6 fa) (m3 : len3 ≤ maxLen) (m4 : len4 ≤ maxLen) (m5 : len5 ≤ maxLen) :
    Calls Yba.prog 7 #[.int .u8 a0, .int .u8 a1, .int .u8 a2, .slice a3 len3 cap3, .slice a4 len4 cap4, .slice a5 len5 cap5, .slice a6 len6 cap6] w fun e w' => e = .returned (.bool true) ∧ Below w.heap.size w w' := by
  by_cases hb : 1024 < len6
  · have h2 : (1024 : Int) < (len6 : Int) := by omega
    clear hr ho ht ha
    go_enter Yba.func7, Yba.ntmps7
    go_wp2
    go_ret
    exact ⟨rfl, Below.refl _ _⟩
  · exact cwithin_walk a0 a1 a2 a3 a4 a5 a6 len3 cap3 len4 cap4 len5 cap5 len6 cap6 fr fo ft fa w w0 w1 w2 hr ho ht ha (by omega) m3 m4 m5

set_option maxRecDepth 100000 in
theorem lifted (os : Os) (started : os.Started) (H : Type) (enc : TypeId × Value → H) :
    ReturnsInHanded {} Yba.checked os 7 .any (Rows.lawS1808CWithinSpec.pre6 enc Yba.prog Yba.f7 Rows.lawS1808CWithinRow.domain false) (Rows.lawS1808CWithinSpec.post enc Yba.prog Yba.f7 false true false false) := by
  refine returnsInHanded_of_change (C := Yba.checked) own started (by kernel_rfl) Yba.func7
    (ChangeSpec.witness6 (enc := enc) (C := Yba.checked) false ⟨#[], #[.int .u8 0, .int .u8 0, .int .u8 0, .slice none 0 0, .slice none 0 0, .slice none 0 0, .slice none 0 0], []⟩ 8 (by kernel_rfl) (by kernel_rfl) (by kernel_rfl) (by kernel_rfl)) ?_
  intro W base args ds gs before hval0 hW hcnd _
  have hval : ∀ (j : Nat) t v, Yba.f7.params[j]? = some t → args[j]? = some v → Value.okWide Yba.prog W .any base t v := hval0
  have hW' := hW
  obtain ⟨p, q, hA0, hV, rfl, hfz, hnd⟩ := hW
  have hA : DataW.TrodAll enc Yba.prog W 0 (fun _ => true) true Yba.f7.params.toList args.toList ds p := hA0
  rw [Yba.params7] at hA hval
  obtain ⟨v0, vs0, d0, ds0, p0, q0, hargs, rfl, rfl, h0, r0⟩ := trodAll_cons hA
  obtain ⟨v1, vs1, d1, ds1, p1, q1, rfl, rfl, rfl, h1, r1⟩ := trodAll_cons r0
  obtain ⟨v2, vs2, d2, ds2, p2, q2, rfl, rfl, rfl, h2, r2⟩ := trodAll_cons r1
  obtain ⟨v3, vs3, d3, ds3, p3, q3, rfl, rfl, rfl, h3, r3⟩ := trodAll_cons r2
  obtain ⟨v4, vs4, d4, ds4, p4, q4, rfl, rfl, rfl, h4, r4⟩ := trodAll_cons r3
  obtain ⟨v5, vs5, d5, ds5, p5, q5, rfl, rfl, rfl, h5, r5⟩ := trodAll_cons r4
  obtain ⟨v6, vs6, d6, ds6, p6, q6, rfl, rfl, rfl, h6, r6⟩ := trodAll_cons r5
  obtain ⟨rfl, rfl, rfl⟩ := trodAll_nil r6
  obtain rfl : args = #[v0, v1, v2, v3, v4, v5, v6] := by cases args; simp_all
  obtain ⟨rfl, rfl⟩ := trodVars_none hV
  obtain ⟨a0, rfl, rfl, rfl, w0⟩ := open_int Yba.underlying5 (hval 0 5 v0 rfl rfl) h0
  obtain ⟨a1, rfl, rfl, rfl, w1⟩ := open_int Yba.underlying5 (hval 1 5 v1 rfl rfl) h1
  obtain ⟨a2, rfl, rfl, rfl, w2⟩ := open_int Yba.underlying5 (hval 2 5 v2 rfl rfl) h2
  obtain ⟨a3, len3, cap3, rfl⟩ := okWide_slice Yba.underlying26 (hval 3 26 v3 rfl rfl)
  obtain ⟨a4, len4, cap4, rfl⟩ := okWide_slice Yba.underlying26 (hval 4 26 v4 rfl rfl)
  obtain ⟨a5, len5, cap5, rfl⟩ := okWide_slice Yba.underlying50 (hval 5 50 v5 rfl rfl)
  obtain ⟨a6, len6, cap6, rfl⟩ := okWide_slice Yba.underlying51 (hval 6 51 v6 rfl rfl)
  have k3 := h3
  have k4 := h4
  have k5 := h5
  have k6 := h6
  have lt3 : ∀ x ∈ p3, x.block < W.heap.size := by obtain ⟨m, hm⟩ := k3; exact DataW.trod_lt m _ _ _ hm
  have lt4 : ∀ x ∈ p4, x.block < W.heap.size := by obtain ⟨m, hm⟩ := k4; exact DataW.trod_lt m _ _ _ hm
  have lt5 : ∀ x ∈ p5, x.block < W.heap.size := by obtain ⟨m, hm⟩ := k5; exact DataW.trod_lt m _ _ _ hm
  have lt6 : ∀ x ∈ p6, x.block < W.heap.size := by obtain ⟨m, hm⟩ := k6; exact DataW.trod_lt m _ _ _ hm
  obtain ⟨fr, hr, m3⟩ : ∃ f, ArgB W a3 len3 f ∧ len3 ≤ maxLen := by
    obtain ⟨fuel, hf⟩ := h3
    obtain ⟨a, l, c, f, e, r⟩ := bools_open hf
    simp [Value.cells] at e
    obtain ⟨rfl, rfl, rfl⟩ := e
    exact ⟨f, r⟩
  obtain ⟨fo, ho, m4⟩ : ∃ f, ArgB W a4 len4 f ∧ len4 ≤ maxLen := by
    obtain ⟨fuel, hf⟩ := h4
    obtain ⟨a, l, c, f, e, r⟩ := bools_open hf
    simp [Value.cells] at e
    obtain ⟨rfl, rfl, rfl⟩ := e
    exact ⟨f, r⟩
  obtain ⟨ft, ht, m5⟩ : ∃ f, ArgI W a5 len5 f ∧ len5 ≤ maxLen := by
    obtain ⟨fuel, hf⟩ := h5
    obtain ⟨a, l, c, f, e, r⟩ := int8s_open hf
    simp [Value.cells] at e
    obtain ⟨rfl, rfl, rfl⟩ := e
    exact ⟨f, r⟩
  obtain ⟨fa, ha⟩ : ∃ f, ArgA W a6 len6 f := by
    obtain ⟨fuel, hf⟩ := h6
    obtain ⟨a, l, c, f, e, r⟩ := arcs_open hf
    simp [Value.cells] at e
    obtain ⟨rfl, rfl, rfl⟩ := e
    exact ⟨f, r⟩
  clear hA0 hval0
  refine (walk a0 a1 a2 a3 a4 a5 a6 len3 cap3 len4 cap4 len5 cap5 len6 cap6 fr fo ft fa W (u8_bounds w0) (u8_bounds w1) (u8_bounds w2) hr ho ht ha m3 m4 m5).mono fun e W' ⟨he, bel⟩ => ?_
  subst he
  exact ⟨_, rfl, _, _, _, [], _, [], hW', trodAll_mk1 (shut_bool Yba.underlying4 _), (trodAll_cons_mk (shut_int Yba.underlying5 w0) (trodAll_cons_mk (shut_int Yba.underlying5 w1) (trodAll_cons_mk (shut_int Yba.underlying5 w2) (trodAll_cons_mk (Below.trod laidOut (by kernel_rfl) (of_decide_eq_true (by kernel_rfl)) k3 bel lt3) (trodAll_cons_mk (Below.trod laidOut (by kernel_rfl) (of_decide_eq_true (by kernel_rfl)) k4 bel lt4) (trodAll_cons_mk (Below.trod laidOut (by kernel_rfl) (of_decide_eq_true (by kernel_rfl)) k5 bel lt5) (trodAll_cons_mk (Below.trod laidOut (by kernel_rfl) (of_decide_eq_true (by kernel_rfl)) k6 bel lt6) trodAll_mk0))))))), rfl, bel.frame _, fun h => by cases h⟩

theorem over : Rows.lawS1808CWithinRow.holds Yba.pinned (OpenSpec.ofChange Rows.lawS1808CWithinSpec) :=
  OpenClaim.holds_of_wide 7 Yba.f7 rfl rfl rfl rfl rfl rfl rfl ⟨rfl, rfl, rfl, rfl, rfl⟩ rfl rfl rfl rfl rfl (by kernel_rfl) Yba.func7 (by kernel_rfl)
    (of_decide_eq_true (by kernel_rfl)) (by unfold Func.isWrapper; first | (rw [if_pos (by decide +kernel)]; kernel_rfl) | (rw [if_neg (by decide +kernel)]; exact ⟨rfl, rfl⟩))
    (fun os started H enc _ => lifted os started H enc)

/-- ████ THE STATEMENT ████ -/
theorem proved : Rows.LawS1808CWithinSaid := over
#print axioms proved
end Go.Proofs.Ybulkakko.lawS1808CWithin
