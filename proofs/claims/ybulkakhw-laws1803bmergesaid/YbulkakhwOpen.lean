/-
  An argument of type []ZzS1803BSig, and one of type []byte, opened as the walks want them.
-/
import Derived.Test.YbulkakhwWalkC
import Derived.ProofKit
import Derived.SizedLaws
import Derived.Deep.Slices
import Derived.Deep.Strs
import Derived.OpenShut
namespace Go.Proofs.Ybulkakhw
open Go.ChangeShapes Go.WideShapes Go.ChangeAt Go.RowKit

theorem Yba.cells5 : Yba.prog.cellsOf 5 = 1 := by kernel_rfl
theorem Yba.cells9 : Yba.prog.cellsOf 9 = 1 := by kernel_rfl
theorem Yba.cells22 : Yba.prog.cellsOf 22 = 1 := by kernel_rfl
theorem Yba.cells30 : Yba.prog.cellsOf 30 = 1 := by kernel_rfl
theorem Yba.cells40 : Yba.prog.cellsOf 40 = 3 := by kernel_rfl
theorem Yba.bytes5 : Yba.prog.bytesOf 5 = 1 := by kernel_rfl

theorem weights_all {H : Type} {P : Program} {e : TypeId} {d : DataW H} {n : Nat} : ∀ {l : List (DataW H)}, d ∈ l → n ∈ d.weights P e → n ∈ DataW.weightsAll P e l
  | [], h, _ => by cases h
  | a :: l, h, hn => by
    rw [DataW.weightsAll, List.mem_append]
    rcases List.mem_cons.1 h with rfl | h
    · exact .inl hn
    · exact .inr (weights_all h hn)

section
variable {H : Type} {enc : TypeId × Value → H} {W : World} {base : Nat} {spare : Nat → Bool} {held : Bool}

/-- A []byte. -/
theorem bytes_open {fuel : Nat} {cs : List Value} {x : DataW H × List MemPlace} (h : DataW.trod enc Yba.prog W base spare held fuel 22 cs = some x) (hsz : ∀ n ∈ x.1.weights Yba.prog 22, n ≤ reachBytes) :
    ∃ a len cap xs, cs = [.slice a len cap] ∧ xs.length = len ∧ Lib.BytesIn W a len xs ∧ len ≤ 140737488351232 := by
  rcases open_ints Yba.underlying22 Yba.underlying5 Yba.cells5 h with ⟨rfl, rfl⟩ | ⟨a, len, cap, zs, rfl, hb, hl, hm, hz, rfl, hcell, hw⟩
  · exact ⟨none, 0, 0, [], rfl, rfl, Lib.BytesIn.nil _ _ _, by omega⟩
  · have hlz : len ≤ zs.length := by rw [hz]; split <;> omega
    refine ⟨some a, len, cap, zs.take len, rfl, by simp; omega, Lib.BytesIn.of_cells ?_, ?_⟩
    · intro i hi
      rw [hcell i (by omega)]
      simp [List.getD, List.getElem?_take_of_lt hi]
    · have := hsz ((len + (zs.length - len)) * 1) (by simp [DataW.weights, Yba.underlying22, Yba.bytes5, lits]; omega)
      simp only [reachBytes] at this
      omega

theorem u32_bounds {n : Int} (h : (Lit.int .u32 n).wf = true) : 0 ≤ n ∧ n < 4294967296 := by
  have h1 : IntKind.u32.min = 0 := rfl
  have h2 : IntKind.u32.max = 4294967295 := rfl
  simp only [Lit.wf, Bool.and_eq_true, decide_eq_true_eq] at h
  omega

/-- A []ZzS1803BSig. -/
theorem sigs_open {fuel : Nat} {cs : List Value} {x : DataW H × List MemPlace} (h : DataW.trod enc Yba.prog W base spare held fuel 23 cs = some x) (hsz : ∀ n ∈ x.1.weights Yba.prog 23, n ≤ reachBytes) :
    ∃ a len cap L, cs = [.slice a len cap] ∧ ArgRow W a len cap L := by
  rcases Deep.open_slice Yba.underlying23 h with ⟨rfl, rfl⟩ | ⟨a, len, cap, m, n, D, Pl, rfl, hb, hl, hm, hmm, rfl, hx⟩
  · exact ⟨none, 0, 0, [], rfl, rfl, .inl ⟨rfl, rfl⟩⟩
  · have hlm : len ≤ m := by rw [hmm]; split <;> omega
    have each : ∀ i, i < len → ∃ s : Sg, W.cell? (a.add (i * 3)) = some (.string s.name) ∧ W.cell? (a.add (i * 3 + 1)) = some (.int .u32 s.key) ∧ W.cell? (a.add (i * 3 + 2)) = some (.slice s.p s.len s.cap) ∧ s.arg W := by
      intro i hi
      obtain ⟨cs', h1, h2⟩ := hx i (by omega)
      rw [Yba.cells40] at h1
      obtain ⟨_, hlen, hcell⟩ := World.cells?_some h1
      obtain ⟨y0, y1, y2, k, hxy, _, g0, g1, g2⟩ := Deep.trod_struct3 Yba.underlying40 h2
      match cs', hlen with
      | [v0, v1, v2], _ =>
        simp [Yba.cells9, Yba.cells30, Yba.cells22] at g0 g1 g2
        obtain ⟨s, e0, _, _⟩ := DataW.trod_string Yba.underlying9 g0
        obtain ⟨q, e1, _, hq⟩ := DataW.trod_int Yba.underlying30 g1
        have hwt : ∀ n ∈ y2.1.weights Yba.prog 22, n ≤ reachBytes := by
          intro n hn
          apply hsz
          simp only [DataW.weights, Yba.underlying23, List.mem_cons, List.mem_append]
          refine .inr (.inl (weights_all (d := D i) (List.mem_map.2 ⟨i, List.mem_range.2 hi, rfl⟩) ?_))
          have : D i = .agg [y0.1, y1.1, y2.1] := congrArg Prod.fst hxy
          rw [this]
          simp only [DataW.weights, Yba.underlying40]
          simp [DataW.weightsEach, hn]
        obtain ⟨p, l, c, xs, e2, hxl, hbi, hle⟩ := bytes_open g2 hwt
        simp only [List.cons.injEq, and_true] at e0 e1 e2
        subst e0 e1 e2
        have c0 := hcell 0 (by omega)
        have c1 := hcell 1 (by omega)
        have c2 := hcell 2 (by omega)
        rw [Deep.add_add] at c0 c1 c2
        exact ⟨⟨s, q, p, l, c, xs⟩, by simpa using c0, by simpa using c1, by simpa using c2, hxl, hbi, hle, u32_bounds hq⟩
    obtain ⟨f, hf⟩ := @Deep.choose_lt Sg ⟨⟨ByteArray.empty, 0, none, 0, 0, []⟩⟩ _ _ each
    refine ⟨some a, len, cap, (List.range len).map f, rfl, by simp, .inr ⟨a, rfl, hl, fun i hi => ?_⟩⟩
    have hi' : i < len := by simpa using hi
    simpa using hf i hi'
end
end Go.Proofs.Ybulkakhw
