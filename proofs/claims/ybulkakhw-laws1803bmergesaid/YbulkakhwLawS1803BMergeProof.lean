/-
  The proof of 'Rows.LawS1803BMergeSaid': the frame after the kit's tool (proof-skeleton), the walk is ours.
-/
import Derived.Test.YbulkakhwLawM
import Derived.Test.YbulkakhwOpenN
import Derived.WalkKit
import Derived.ProofKit
import Derived.SizedLaws
import Derived.OpenShut
import Derived.ShutString
import Derived.ChangeOld
import Derived.Below
namespace Go.Proofs.Ybulkakhw.lawS1803BMerge
open Go.ChangeShapes Go.WideShapes Go.ChangeAt Go.RowKit
set_option linter.unusedVariables false

theorem own : ownKnob Yba.prog.godebug = none := by kernel_rfl
theorem laidOut : laidOutB Yba.prog = true := by kernel_rfl

theorem walk (a m t : Option Addr) (la ca lm cm lt ct : Nat) (xs : List Int) (L M : List Sg) (w : World)
    (lx : xs.length = la) (bx : Lib.BytesIn w a la xs) (hm : ArgRow w m lm cm L) (ht : ArgRow w t lt ct M) (kL : ∀ s ∈ L, s.name.size ≤ maxLen) (kM : ∀ s ∈ M, s.name.size ≤ maxLen) :
    Calls Yba.prog 3 #[.slice a la ca, .slice m lm cm, .slice t lt ct] w fun e w' => e = .returned (.bool true) ∧ Below w.heap.size w w' := by
  by_cases h : 1024 < lm ∨ 1024 < lt ∨ 65536 < la
  · exact merge_big a m t la ca lm cm lt ct w h
  · exact merge_walk a m t la ca lm cm lt ct xs L M w (by omega) (by omega) (by omega) lx bx hm ht kL kM

set_option maxRecDepth 100000 in
theorem lifted (os : Os) (started : os.Started) (H : Type) (enc : TypeId × Value → H) :
    ReturnsInHanded {} Yba.checked os 3 .any (Rows.lawS1803BMergeSpec.pre6 enc Yba.prog Yba.f3 Rows.lawS1803BMergeRow.domain false) (Rows.lawS1803BMergeSpec.post enc Yba.prog Yba.f3 false true false false) := by
  refine returnsInHanded_of_change_sized (C := Yba.checked) own started (by kernel_rfl) Yba.func3
    (ChangeSpec.witness6 (enc := enc) (C := Yba.checked) false ⟨#[], #[.slice none 0 0, .slice none 0 0, .slice none 0 0], []⟩ 8 (by kernel_rfl) (by kernel_rfl) (by kernel_rfl) (by kernel_rfl)) ?_
  intro W base args ds gs before hval0 hW hcnd hsz0 _
  have hsz : (DataW.weightsEach Yba.prog (Yba.f3.params.toList ++ Rows.lawS1803BMergeSpec.plain.varTypes Yba.prog) (ds ++ gs)).all (· ≤ reachBytes) = true := hsz0
  have hval : ∀ (j : Nat) t v, Yba.f3.params[j]? = some t → args[j]? = some v → Value.okWide Yba.prog W .any base t v := hval0
  have hW' := hW
  obtain ⟨p, q, hA0, hV, rfl, hfz, hnd⟩ := hW
  have hA : DataW.TrodAll enc Yba.prog W 0 (fun _ => true) true Yba.f3.params.toList args.toList ds p := hA0
  rw [Yba.params3] at hA hval hsz
  obtain ⟨v0, vs0, d0, ds0, p0, q0, hargs, rfl, rfl, h0, r0⟩ := trodAll_cons hA
  obtain ⟨v1, vs1, d1, ds1, p1, q1, rfl, rfl, rfl, h1, r1⟩ := trodAll_cons r0
  obtain ⟨v2, vs2, d2, ds2, p2, q2, rfl, rfl, rfl, h2, r2⟩ := trodAll_cons r1
  obtain ⟨rfl, rfl, rfl⟩ := trodAll_nil r2
  obtain rfl : args = #[v0, v1, v2] := by cases args; simp_all
  obtain ⟨rfl, rfl⟩ := trodVars_none hV
  have s0 : ∀ n ∈ d0.weights Yba.prog 22, n ≤ reachBytes := fun n hn => by simpa using List.all_eq_true.1 hsz n (DataW.weights_mem_each (j := 0) rfl rfl n hn)
  have s1 : ∀ n ∈ d1.weights Yba.prog 23, n ≤ reachBytes := fun n hn => by simpa using List.all_eq_true.1 hsz n (DataW.weights_mem_each (j := 1) rfl rfl n hn)
  have s2 : ∀ n ∈ d2.weights Yba.prog 23, n ≤ reachBytes := fun n hn => by simpa using List.all_eq_true.1 hsz n (DataW.weights_mem_each (j := 2) rfl rfl n hn)
  obtain ⟨a0, len0, cap0, rfl⟩ := okWide_slice Yba.underlying22 (hval 0 22 v0 rfl rfl)
  obtain ⟨a1, len1, cap1, rfl⟩ := okWide_slice Yba.underlying23 (hval 1 23 v1 rfl rfl)
  obtain ⟨a2, len2, cap2, rfl⟩ := okWide_slice Yba.underlying23 (hval 2 23 v2 rfl rfl)
  have k0 := h0
  have k1 := h1
  have k2 := h2
  have lt0 : ∀ x ∈ p0, x.block < W.heap.size := by obtain ⟨m, hm⟩ := k0; exact DataW.trod_lt m _ _ _ hm
  have lt1 : ∀ x ∈ p1, x.block < W.heap.size := by obtain ⟨m, hm⟩ := k1; exact DataW.trod_lt m _ _ _ hm
  have lt2 : ∀ x ∈ p2, x.block < W.heap.size := by obtain ⟨m, hm⟩ := k2; exact DataW.trod_lt m _ _ _ hm
  obtain ⟨xs, lx, bx, bdx⟩ : ∃ xs, xs.length = len0 ∧ Lib.BytesIn W a0 len0 xs ∧ len0 ≤ 140737488351232 := by
    obtain ⟨fuel, hf⟩ := h0
    obtain ⟨a, l, c, xs, e, r⟩ := bytes_open hf s0
    simp [Value.cells] at e
    obtain ⟨rfl, rfl, rfl⟩ := e
    exact ⟨xs, r⟩
  obtain ⟨L, hL, nL⟩ : ∃ L, ArgRow W a1 len1 cap1 L ∧ ∀ s ∈ L, s.name.size ≤ maxLen := by
    obtain ⟨fuel, hf⟩ := h1
    obtain ⟨a, l, c, L, e, r⟩ := sigs_open_names hf s1
    simp [Value.cells] at e
    obtain ⟨rfl, rfl, rfl⟩ := e
    exact ⟨L, r⟩
  obtain ⟨M, hM, nM⟩ : ∃ L, ArgRow W a2 len2 cap2 L ∧ ∀ s ∈ L, s.name.size ≤ maxLen := by
    obtain ⟨fuel, hf⟩ := h2
    obtain ⟨a, l, c, L, e, r⟩ := sigs_open_names hf s2
    simp [Value.cells] at e
    obtain ⟨rfl, rfl, rfl⟩ := e
    exact ⟨L, r⟩
  clear hA0 hval0
  refine (walk a0 a1 a2 len0 cap0 len1 cap1 len2 cap2 xs L M W lx bx hL hM nL nM).mono fun e W' ⟨he, bel⟩ => ?_
  subst he
  exact ⟨_, rfl, _, _, _, [], _, [], hW', trodAll_mk1 (shut_bool Yba.underlying4 _), (trodAll_cons_mk (Below.trod laidOut (by kernel_rfl) (of_decide_eq_true (by kernel_rfl)) k0 bel lt0) (trodAll_cons_mk (Below.trod laidOut (by kernel_rfl) (of_decide_eq_true (by kernel_rfl)) k1 bel lt1) (trodAll_cons_mk (Below.trod laidOut (by kernel_rfl) (of_decide_eq_true (by kernel_rfl)) k2 bel lt2) trodAll_mk0))), rfl, bel.frame _, fun h => by cases h⟩

theorem over : Rows.lawS1803BMergeRow.holds Yba.pinned (OpenSpec.ofChange Rows.lawS1803BMergeSpec) :=
  OpenClaim.holds_of_wide 3 Yba.f3 rfl rfl rfl rfl rfl rfl rfl ⟨rfl, rfl, rfl, rfl, rfl⟩ rfl rfl rfl rfl rfl (by kernel_rfl) Yba.func3 (by kernel_rfl)
    (of_decide_eq_true (by kernel_rfl)) (by unfold Func.isWrapper; first | (rw [if_pos (by decide +kernel)]; kernel_rfl) | (rw [if_neg (by decide +kernel)]; exact ⟨rfl, rfl⟩))
    (fun os started H enc _ => lifted os started H enc)

theorem proved : Rows.LawS1803BMergeSaid := over
end Go.Proofs.Ybulkakhw.lawS1803BMerge
