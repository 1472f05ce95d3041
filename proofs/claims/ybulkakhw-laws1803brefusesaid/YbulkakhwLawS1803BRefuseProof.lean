/-
  The proof of 'Rows.LawS1803BRefuseSaid': the frame after the kit's tool (proof-skeleton), the walk is ours.
-/
import Derived.Test.YbulkakhwWalkD
import Derived.Test.YbulkakhwOpen
import Derived.WalkKit
import Derived.ProofKit
import Derived.SizedLaws
import Derived.OpenShut
import Derived.ShutString
import Derived.ChangeOld
import Derived.Below
namespace Go.Proofs.Ybulkakhw.lawS1803BRefuse
open Go.ChangeShapes Go.WideShapes Go.ChangeAt Go.RowKit
set_option linter.unusedVariables false

theorem own : ownKnob Yba.prog.godebug = none := by kernel_rfl
theorem laidOut : laidOutB Yba.prog = true := by kernel_rfl

theorem walk (a b m t : Option Addr) (la ca lb cb lm cm lt ct : Nat) (xs ys : List Int) (L M : List Sg) (w : World)
    (lx : xs.length = la) (ly : ys.length = lb) (bx : Lib.BytesIn w a la xs) (by_ : Lib.BytesIn w b lb ys) (hla : la ≤ 140737488351232) (hlb : lb ≤ 140737488351232)
    (hm : ArgRow w m lm cm L) (ht : ArgRow w t lt ct M) :
    Calls Yba.prog 4 #[.slice a la ca, .slice b lb cb, .slice m lm cm, .slice t lt ct] w fun e w' => e = .returned (.bool true) ∧ Below w.heap.size w w' := by
  by_cases h : 1024 < lm ∨ 1024 < lt
  · exact refuse_big _ _ m t lm cm lt ct w h
  · exact refuse_walk a b m t la ca lb cb lm cm lt ct xs ys L M w (by omega) (by omega) lx ly bx by_ (by omega) (by omega) hm ht

set_option maxRecDepth 100000 in
theorem lifted (os : Os) (started : os.Started) (H : Type) (enc : TypeId × Value → H) :
    ReturnsInHanded {} Yba.checked os 4 .any (Rows.lawS1803BRefuseSpec.pre6 enc Yba.prog Yba.f4 Rows.lawS1803BRefuseRow.domain false) (Rows.lawS1803BRefuseSpec.post enc Yba.prog Yba.f4 false true false false) := by
  refine returnsInHanded_of_change_sized (C := Yba.checked) own started (by kernel_rfl) Yba.func4
    (ChangeSpec.witness6 (enc := enc) (C := Yba.checked) false ⟨#[], #[.slice none 0 0, .slice none 0 0, .slice none 0 0, .slice none 0 0], []⟩ 8 (by kernel_rfl) (by kernel_rfl) (by kernel_rfl) (by kernel_rfl)) ?_
  intro W base args ds gs before hval0 hW hcnd hsz0 _
  have hsz : (DataW.weightsEach Yba.prog (Yba.f4.params.toList ++ Rows.lawS1803BRefuseSpec.plain.varTypes Yba.prog) (ds ++ gs)).all (· ≤ reachBytes) = true := hsz0
  have hval : ∀ (j : Nat) t v, Yba.f4.params[j]? = some t → args[j]? = some v → Value.okWide Yba.prog W .any base t v := hval0
  have hW' := hW
  obtain ⟨p, q, hA0, hV, rfl, hfz, hnd⟩ := hW
  have hA : DataW.TrodAll enc Yba.prog W 0 (fun _ => true) true Yba.f4.params.toList args.toList ds p := hA0
  rw [Yba.params4] at hA hval hsz
  obtain ⟨v0, vs0, d0, ds0, p0, q0, hargs, rfl, rfl, h0, r0⟩ := trodAll_cons hA
  obtain ⟨v1, vs1, d1, ds1, p1, q1, rfl, rfl, rfl, h1, r1⟩ := trodAll_cons r0
  obtain ⟨v2, vs2, d2, ds2, p2, q2, rfl, rfl, rfl, h2, r2⟩ := trodAll_cons r1
  obtain ⟨v3, vs3, d3, ds3, p3, q3, rfl, rfl, rfl, h3, r3⟩ := trodAll_cons r2
  obtain ⟨rfl, rfl, rfl⟩ := trodAll_nil r3
  obtain rfl : args = #[v0, v1, v2, v3] := by cases args; simp_all
  obtain ⟨rfl, rfl⟩ := trodVars_none hV
  have s0 : ∀ n ∈ d0.weights Yba.prog 22, n ≤ reachBytes := fun n hn => by simpa using List.all_eq_true.1 hsz n (DataW.weights_mem_each (j := 0) rfl rfl n hn)
  have s1 : ∀ n ∈ d1.weights Yba.prog 22, n ≤ reachBytes := fun n hn => by simpa using List.all_eq_true.1 hsz n (DataW.weights_mem_each (j := 1) rfl rfl n hn)
  have s2 : ∀ n ∈ d2.weights Yba.prog 23, n ≤ reachBytes := fun n hn => by simpa using List.all_eq_true.1 hsz n (DataW.weights_mem_each (j := 2) rfl rfl n hn)
  have s3 : ∀ n ∈ d3.weights Yba.prog 23, n ≤ reachBytes := fun n hn => by simpa using List.all_eq_true.1 hsz n (DataW.weights_mem_each (j := 3) rfl rfl n hn)
  obtain ⟨a0, len0, cap0, rfl⟩ := okWide_slice Yba.underlying22 (hval 0 22 v0 rfl rfl)
  obtain ⟨a1, len1, cap1, rfl⟩ := okWide_slice Yba.underlying22 (hval 1 22 v1 rfl rfl)
  obtain ⟨a2, len2, cap2, rfl⟩ := okWide_slice Yba.underlying23 (hval 2 23 v2 rfl rfl)
  obtain ⟨a3, len3, cap3, rfl⟩ := okWide_slice Yba.underlying23 (hval 3 23 v3 rfl rfl)
  have k0 := h0
  have k1 := h1
  have k2 := h2
  have k3 := h3
  have lt0 : ∀ x ∈ p0, x.block < W.heap.size := by obtain ⟨m, hm⟩ := k0; exact DataW.trod_lt m _ _ _ hm
  have lt1 : ∀ x ∈ p1, x.block < W.heap.size := by obtain ⟨m, hm⟩ := k1; exact DataW.trod_lt m _ _ _ hm
  have lt2 : ∀ x ∈ p2, x.block < W.heap.size := by obtain ⟨m, hm⟩ := k2; exact DataW.trod_lt m _ _ _ hm
  have lt3 : ∀ x ∈ p3, x.block < W.heap.size := by obtain ⟨m, hm⟩ := k3; exact DataW.trod_lt m _ _ _ hm
  obtain ⟨xs, lx, bx, bdx⟩ : ∃ xs, xs.length = len0 ∧ Lib.BytesIn W a0 len0 xs ∧ len0 ≤ 140737488351232 := by
    obtain ⟨fuel, hf⟩ := h0
    obtain ⟨a, l, c, xs, e, r⟩ := bytes_open hf s0
    simp [Value.cells] at e
    obtain ⟨rfl, rfl, rfl⟩ := e
    exact ⟨xs, r⟩
  obtain ⟨ys, ly, by_, bdy⟩ : ∃ xs, xs.length = len1 ∧ Lib.BytesIn W a1 len1 xs ∧ len1 ≤ 140737488351232 := by
    obtain ⟨fuel, hf⟩ := h1
    obtain ⟨a, l, c, xs, e, r⟩ := bytes_open hf s1
    simp [Value.cells] at e
    obtain ⟨rfl, rfl, rfl⟩ := e
    exact ⟨xs, r⟩
  obtain ⟨L, hL⟩ : ∃ L, ArgRow W a2 len2 cap2 L := by
    obtain ⟨fuel, hf⟩ := h2
    obtain ⟨a, l, c, L, e, r⟩ := sigs_open hf s2
    simp [Value.cells] at e
    obtain ⟨rfl, rfl, rfl⟩ := e
    exact ⟨L, r⟩
  obtain ⟨M, hM⟩ : ∃ L, ArgRow W a3 len3 cap3 L := by
    obtain ⟨fuel, hf⟩ := h3
    obtain ⟨a, l, c, L, e, r⟩ := sigs_open hf s3
    simp [Value.cells] at e
    obtain ⟨rfl, rfl, rfl⟩ := e
    exact ⟨L, r⟩
  clear hA0 hval0
  refine (walk a0 a1 a2 a3 len0 cap0 len1 cap1 len2 cap2 len3 cap3 xs ys L M W lx ly bx by_ bdx bdy hL hM).mono fun e W' ⟨he, bel⟩ => ?_
  subst he
  exact ⟨_, rfl, _, _, _, [], _, [], hW', trodAll_mk1 (shut_bool Yba.underlying4 _), (trodAll_cons_mk (Below.trod laidOut (by kernel_rfl) (of_decide_eq_true (by kernel_rfl)) k0 bel lt0) (trodAll_cons_mk (Below.trod laidOut (by kernel_rfl) (of_decide_eq_true (by kernel_rfl)) k1 bel lt1) (trodAll_cons_mk (Below.trod laidOut (by kernel_rfl) (of_decide_eq_true (by kernel_rfl)) k2 bel lt2) (trodAll_cons_mk (Below.trod laidOut (by kernel_rfl) (of_decide_eq_true (by kernel_rfl)) k3 bel lt3) trodAll_mk0)))), rfl, bel.frame _, fun h => by cases h⟩

theorem over : Rows.lawS1803BRefuseRow.holds Yba.pinned (OpenSpec.ofChange Rows.lawS1803BRefuseSpec) :=
  OpenClaim.holds_of_wide 4 Yba.f4 rfl rfl rfl rfl rfl rfl rfl ⟨rfl, rfl, rfl, rfl, rfl⟩ rfl rfl rfl rfl rfl (by kernel_rfl) Yba.func4 (by kernel_rfl)
    (of_decide_eq_true (by kernel_rfl)) (by unfold Func.isWrapper; first | (rw [if_pos (by decide +kernel)]; kernel_rfl) | (rw [if_neg (by decide +kernel)]; exact ⟨rfl, rfl⟩))
    (fun os started H enc _ => lifted os started H enc)

theorem proved : Rows.LawS1803BRefuseSaid := over
end Go.Proofs.Ybulkakhw.lawS1803BRefuse
