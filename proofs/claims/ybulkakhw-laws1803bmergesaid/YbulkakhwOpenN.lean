/-
  An argument of type []ZzS1803BSig opened, with the bound on each name's length.
-/
import Derived.Test.YbulkakhwOpen
namespace Go.Proofs.Ybulkakhw
open Go.ChangeShapes Go.WideShapes Go.ChangeAt Go.RowKit
section
variable {H : Type} {enc : TypeId × Value → H} {W : World} {base : Nat} {spare : Nat → Bool} {held : Bool}

/-- A []ZzS1803BSig. -/
theorem sigs_open_names {fuel : Nat} {cs : List Value} {x : DataW H × List MemPlace} (h : DataW.trod enc Yba.prog W base spare held fuel 23 cs = some x) (hsz : ∀ n ∈ x.1.weights Yba.prog 23, n ≤ reachBytes) :
    ∃ a len cap L, cs = [.slice a len cap] ∧ ArgRow W a len cap L ∧ ∀ s ∈ L, s.name.size ≤ maxLen := by
  rcases Deep.open_slice Yba.underlying23 h with ⟨rfl, rfl⟩ | ⟨a, len, cap, m, n, D, Pl, rfl, hb, hl, hm, hmm, rfl, hx⟩
  · exact ⟨none, 0, 0, [], rfl, ⟨rfl, .inl ⟨rfl, rfl⟩⟩, fun s hs => by cases hs⟩
  · have hlm : len ≤ m := by rw [hmm]; split <;> omega
    have each : ∀ i, i < len → ∃ s : Sg, W.cell? (a.add (i * 3)) = some (.string s.name) ∧ W.cell? (a.add (i * 3 + 1)) = some (.int .u32 s.key) ∧ W.cell? (a.add (i * 3 + 2)) = some (.slice s.p s.len s.cap) ∧ s.arg W ∧ s.name.size ≤ maxLen := by
      intro i hi
      obtain ⟨cs', h1, h2⟩ := hx i (by omega)
      rw [Yba.cells40] at h1
      obtain ⟨_, hlen, hcell⟩ := World.cells?_some h1
      obtain ⟨y0, y1, y2, k, hxy, _, g0, g1, g2⟩ := Deep.trod_struct3 Yba.underlying40 h2
      match cs', hlen with
      | [v0, v1, v2], _ =>
        simp [Yba.cells9, Yba.cells30, Yba.cells22] at g0 g1 g2
        obtain ⟨s, e0, _, hs⟩ := DataW.trod_string Yba.underlying9 g0
        obtain ⟨q, e1, _, hq⟩ := DataW.trod_int Yba.underlying30 g1
        have hwt : ∀ n ∈ y2.1.weights Yba.prog 22, n ≤ reachBytes := by
          intro n hn
          apply hsz
          simp only [DataW.weights, Yba.underlying23, List.mem_cons, List.mem_append]
          refine .inr (.inl (weights_all (d := D i) (List.mem_map.2 ⟨i, List.mem_range.2 hi, rfl⟩) ?_))
          have : D i = .agg [y0.1, y1.1, y2.1] := congrArg Prod.fst hxy
          rw [this]
          simp only [DataW.weights, Yba.underlying40]
          simp [DataW.weightsEach, hn]
        obtain ⟨p, l, c, xs, e2, hxl, hbi, hle⟩ := bytes_open g2 hwt
        simp only [List.cons.injEq, and_true] at e0 e1 e2
        subst e0 e1 e2
        have c0 := hcell 0 (by omega)
        have c1 := hcell 1 (by omega)
        have c2 := hcell 2 (by omega)
        rw [Deep.add_add] at c0 c1 c2
        exact ⟨⟨s, q, p, l, c, xs⟩, by simpa using c0, by simpa using c1, by simpa using c2, ⟨hxl, hbi, hle, u32_bounds hq⟩, hs⟩
    obtain ⟨f, hf⟩ := @Deep.choose_lt Sg ⟨⟨ByteArray.empty, 0, none, 0, 0, []⟩⟩ _ _ each
    refine ⟨some a, len, cap, (List.range len).map f, rfl, ⟨by simp, .inr ⟨a, rfl, hl, fun i hi => ?_⟩⟩, fun s hs => ?_⟩
    · have hi' : i < len := by simpa using hi
      obtain ⟨r1, r2, r3, r4, _⟩ := hf i hi'
      simpa using ⟨r1, r2, r3, r4⟩
    · obtain ⟨i, hi, rfl⟩ := List.mem_map.1 hs
      exact (hf i (List.mem_range.1 hi)).2.2.2.2
end
end Go.Proofs.Ybulkakhw
