/-
  The proof of 'Rows.LawS1804BPicksSaid': the frame as the tool's shell for LawS1804BMonotone has it, turned to a slice of floats.
-/
import Derived.Test.YbulkakikRows
import Derived.WalkKit
import Derived.ProofKit
import Derived.OpenShut
import Derived.ShutString
import Derived.ChangeOld
import Derived.Below
import Derived.Test.YbulkakikPicks
import Derived.Deep.Slices
import Derived.Laws.Cover2
namespace Go.Proofs.Ybulkakik.lawS1804BPicks
open Go.ChangeShapes Go.WideShapes Go.ChangeAt Go.RowKit
open Go.ChangeMaps (open_string shut_string)
set_option linter.unusedVariables false

theorem own : ownKnob Yba.prog.godebug = none := by kernel_rfl
theorem laidOut : laidOutB Yba.prog = true := by kernel_rfl


/-- A slice of floats that came in: nil, or a row whose first len cells are the floats fs. -/
def IsFl (w : World) (a : Option Addr) (len : Nat) (fs : List Nat) : Prop :=
  (a = none ∧ len = 0) ∨ ∃ x, a = some x ∧ fs.length = len ∧ ∀ i, i < len → w.cell? (x.add i) = some (.float .f64 (fs.getD i 0))

theorem trod_fl {H : Type} {enc : TypeId × Value → H} {P : Program} {w : World} {base : Nat} {spare : Nat → Bool} {held : Bool} {t : TypeId} {v : Value} {n : Nat} {x : DataW H × List MemPlace} (ht : P.underlying t = some (.float .f64))
    (h : DataW.trod enc P w base spare held n t [v] = some x) : ∃ b, v = .float .f64 b := by
  cases n with
  | zero => simp [DataW.trod] at h
  | succ n =>
    simp only [DataW.trod, ht] at h
    cases v <;> simp at h
    rename_i k b
    cases k
    · simp at h
    · exact ⟨b, rfl⟩

theorem walk (a0 : Option Addr) (len0 cap0 : Nat) (fs : List Nat) (td : Nat) (w : World) (w0 : IsFl w a0 len0 fs) :
    Calls Yba.prog 3 #[.slice a0 len0 cap0, .float .f64 td] w fun e w' => e = .returned (.bool true) ∧ Below w.heap.size w w' := by
  by_cases hz : len0 = 0
  · subst hz
    have hd : (decide ((0 : Int) = 0)) = true := by decide
    go_enter Yba.func3, Yba.ntmps3
    go_wp2
    go_ret
    exact ⟨rfl, Below.refl _ _⟩
  by_cases hb : 1024 < len0
  · have h1 : (decide ((len0 : Int) = 0)) = false := by simpa using hz
    have h2 : (1024 : Int) < (len0 : Int) := by omega
    clear w0
    go_enter Yba.func3, Yba.ntmps3
    go_wp2
    go_ret
    exact ⟨rfl, Below.refl _ _⟩
  rcases w0 with ⟨rfl, rfl⟩ | ⟨x, rfl, hlen, hcell⟩
  · exact absurd rfl hz
  · obtain ⟨m, rfl⟩ : ∃ m, len0 = m + 1 := ⟨len0 - 1, by omega⟩
    exact picks_walk x m cap0 td fs w (by omega) hlen hcell

set_option maxRecDepth 100000 in
theorem lifted (os : Os) (started : os.Started) (H : Type) (enc : TypeId × Value → H) :
    ReturnsInHanded {} Yba.checked os 3 .any (Rows.lawS1804BPicksSpec.pre6 enc Yba.prog Yba.f3 Rows.lawS1804BPicksRow.domain false) (Rows.lawS1804BPicksSpec.post enc Yba.prog Yba.f3 false true false false) := by
  refine returnsInHanded_of_change (C := Yba.checked) own started (by kernel_rfl) Yba.func3
    (ChangeSpec.witness6 (enc := enc) (C := Yba.checked) false ⟨#[], #[.slice none 0 0, .float .f64 0], []⟩ 8 (by kernel_rfl) (by kernel_rfl) (by kernel_rfl) (by kernel_rfl)) ?_
  intro W base args ds gs before hval0 hW hcnd _
  have hval : ∀ (j : Nat) t v, Yba.f3.params[j]? = some t → args[j]? = some v → Value.okWide Yba.prog W .any base t v := hval0
  have hW' := hW
  obtain ⟨p, q, hA0, hV, rfl, hfz, hnd⟩ := hW
  have hA : DataW.TrodAll enc Yba.prog W 0 (fun _ => true) true Yba.f3.params.toList args.toList ds p := hA0
  rw [Yba.params3] at hA hval
  obtain ⟨v0, vs0, d0, ds0, p0, q0, hargs, rfl, rfl, h0, r0⟩ := trodAll_cons hA
  obtain ⟨v1, vs1, d1, ds1, p1, q1, rfl, rfl, rfl, h1, r1⟩ := trodAll_cons r0
  obtain ⟨rfl, rfl, rfl⟩ := trodAll_nil r1
  obtain rfl : args = #[v0, v1] := by cases args; simp_all
  obtain ⟨rfl, rfl⟩ := trodVars_none hV
  obtain ⟨a0, len0, cap0, rfl⟩ := okWide_slice Yba.underlying22 (hval 0 22 v0 rfl rfl)
  have k0 := h0
  have lt0 : ∀ x ∈ p0, x.block < W.heap.size := by obtain ⟨m, hm⟩ := k0; exact DataW.trod_lt m _ _ _ hm
  obtain ⟨fs, w0⟩ : ∃ fs, IsFl W a0 len0 fs := by
    obtain ⟨fuel, hf⟩ := h0
    rcases Deep.open_slice1 Yba.underlying22 (by kernel_rfl) hf with ⟨hcs, _⟩ | ⟨x, l, c, m, n, V, D, Pl, hcs, _, hl, hm, hmm, _, hcell⟩
    · simp [Value.cells] at hcs
      obtain ⟨rfl, rfl, rfl⟩ := hcs
      exact ⟨[], .inl ⟨rfl, rfl⟩⟩
    · simp [Value.cells] at hcs
      obtain ⟨rfl, rfl, rfl⟩ := hcs
      refine ⟨(List.range len0).map fun i => match V i with | .float _ b => b | _ => 0, .inr ⟨_, rfl, by simp, fun i hi => ?_⟩⟩
      have hi' : i < m := by rw [hmm]; simp only [if_true]; omega
      obtain ⟨e1, e2⟩ := hcell i hi'
      obtain ⟨b, hb⟩ := trod_fl Yba.underlying23 e2
      rw [e1]
      simp [hi, hb]
  obtain ⟨td, rfl, rfl, rfl, w1⟩ := open_float Yba.underlying23 (hval 1 23 v1 rfl rfl) h1
  clear hA0 hval0
  refine (walk a0 len0 cap0 fs td W w0).mono fun e W' ⟨he, bel⟩ => ?_
  subst he
  exact ⟨_, rfl, _, _, _, [], _, [], hW', trodAll_mk1 (shut_bool Yba.underlying4 _), (trodAll_cons_mk (Below.trod laidOut (by kernel_rfl) (of_decide_eq_true (by kernel_rfl)) k0 bel lt0) (trodAll_cons_mk (shut_float Yba.underlying23 w1) trodAll_mk0)), rfl, bel.frame _, fun h => by cases h⟩

theorem over : Rows.lawS1804BPicksRow.holds Yba.pinned (OpenSpec.ofChange Rows.lawS1804BPicksSpec) :=
  OpenClaim.holds_of_wide 3 Yba.f3 rfl rfl rfl rfl rfl rfl rfl ⟨rfl, rfl, rfl, rfl, rfl⟩ rfl rfl rfl rfl rfl (by kernel_rfl) Yba.func3 (by kernel_rfl)
    (of_decide_eq_true (by kernel_rfl)) (by unfold Func.isWrapper; first | (rw [if_pos (by decide +kernel)]; kernel_rfl) | (rw [if_neg (by decide +kernel)]; exact ⟨rfl, rfl⟩))
    (fun os started H enc _ => lifted os started H enc)

/-- ████ THE STATEMENT ████ -/
theorem proved : Rows.LawS1804BPicksSaid := over
#print axioms proved
end Go.Proofs.Ybulkakik.lawS1804BPicks
