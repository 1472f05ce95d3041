/-
  zzs1803beqall over two rows of lines that tell the same.
-/
import Derived.Test.YbulkakhwWalkA
import Derived.Deep.RegionHeld3
import Derived.Deep.AppendLies
import Derived.Deep.DrawnRows
namespace Go.Proofs.Ybulkakhw
open Go.RowKit
attribute [local go_sem ↓] Go.wp_at_zero Go.wp_at_succ

/-! ### A row of lines -/
def flat (L : List Sg) : List Value := L.flatMap Sg.cells
theorem flat_length (L : List Sg) : (flat L).length = L.length * 3 := by
  induction L with
  | nil => rfl
  | cons s L ih => simp only [flat, List.flatMap_cons, List.length_append, List.length_cons] at ih ⊢; simp only [Sg.cells, List.length_cons, List.length_nil]; omega
theorem flat_get (L : List Sg) (i j : Nat) (hi : i < L.length) (hj : j < 3) : (flat L)[i * 3 + j]? = (L[i].cells)[j]? := by
  induction L generalizing i with
  | nil => simp at hi
  | cons s L ih =>
    cases i with
    | zero =>
      simp only [flat, List.flatMap_cons, Nat.zero_mul, Nat.zero_add, List.getElem_cons_zero]
      rw [List.getElem?_append_left (by simp [Sg.cells]; omega)]
    | succ i =>
      have := ih i (by simpa using hi)
      simp only [flat, List.flatMap_cons, List.getElem_cons_succ] at this ⊢
      rw [List.getElem?_append_right (by simp [Sg.cells]; omega), ← this]
      congr 1
      simp [Sg.cells]
      omega
theorem flat_append (L M : List Sg) : flat (L ++ M) = flat L ++ flat M := List.flatMap_append
theorem flat_one (s : Sg) : flat [s] = s.cells := by simp [flat]

/-- The slice v owns a row of the lines L, each with its bytes. -/
def SigRow (w : World) (base : Nat) (v : Value) (L : List Sg) : Prop := w.ownsRow base 32 3 v L.length (flat L) ∧ ∀ s ∈ L, s.ok w

theorem SigRow.below {w w' : World} {base : Nat} {v : Value} {L : List Sg} (h : SigRow w base v L) (hb : Below w.heap.size w w') : SigRow w' base v L := by
  refine ⟨?_, fun s hs => (h.2 s hs).below hb (Nat.le_refl _)⟩
  refine ⟨h.1.1, ?_⟩
  rcases h.1.2 with h0 | ⟨g, cap, cur, h1, h2, h3, r⟩
  · exact .inl h0
  · exact .inr ⟨g, cap, cur, h1, h2, by rw [hb.block g (heap_lt h3)]; exact h3, r⟩

/-- The cells of line i. -/
theorem SigRow.cells {w : World} {base : Nat} {v : Value} {L : List Sg} (h : SigRow w base v L) {i : Nat} (hi : i < L.length) :
    ∃ g cap, v = .slice (some ⟨g, 0, none⟩) L.length cap ∧ g < w.heap.size ∧ w.cell? ⟨g, i * 3, none⟩ = some (.string L[i].name) ∧ w.cell? ⟨g, i * 3 + 1, none⟩ = some (.int .u32 L[i].key) ∧ w.cell? ⟨g, i * 3 + 2, none⟩ = some (.slice L[i].p L[i].len L[i].cap) := by
  rcases h.1.2 with ⟨rfl, h0⟩ | ⟨g, cap, cur, rfl, h2, h3, h4, h5, h6, h7⟩
  · omega
  · have hc : ∀ j, j < 3 → cur[i * 3 + j]? = (L[i].cells)[j]? := by
      intro j hj
      rw [← flat_get L i j hi hj, ← h7, List.getElem?_take_of_lt (by omega), Array.getElem?_toList]
    refine ⟨g, cap, rfl, heap_lt h3, cell_of_block h3 (by rw [← Nat.add_zero (i * 3), hc 0 (by omega)]; rfl), cell_of_block h3 (by rw [hc 1 (by omega)]; rfl), cell_of_block h3 (by rw [hc 2 (by omega)]; rfl)⟩

set_option maxHeartbeats 1000000 in
set_option maxRecDepth 100000 in
theorem eqall_true (base : Nat) (v1 v2 : Value) (L M : List Sg) (w : World) (h1 : SigRow w base v1 L) (h2 : SigRow w base v2 M) (hd : L.map Sg.data = M.map Sg.data) (hn : L.length ≤ 1000000) :
    Calls Yba.prog 9 #[v1, v2] w fun e w' => e = .returned (.bool true) ∧ Below w.heap.size w w' := by
  have hlen : M.length = L.length := by have := congrArg List.length hd; simpa using this.symm
  by_cases h0 : L.length = 0
  · have e1 : ∃ p c, v1 = .slice p 0 c := by
      rcases h1.1.2 with ⟨rfl, _⟩ | ⟨g, cap, cur, rfl, _⟩
      · exact ⟨_, _, rfl⟩
      · exact ⟨_, _, by rw [h0]⟩
    have e2 : ∃ p c, v2 = .slice p 0 c := by
      rcases h2.1.2 with ⟨rfl, _⟩ | ⟨g, cap, cur, rfl, _⟩
      · exact ⟨_, _, rfl⟩
      · exact ⟨_, _, by rw [hlen, h0]⟩
    obtain ⟨p1, c1, rfl⟩ := e1
    obtain ⟨p2, c2, rfl⟩ := e2
    clear h1 h2 hd
    go_enter Yba.func9, Yba.ntmps9
    go_wp2
    refine wp_loop_rounds 1 ?_
    rw [rounds_succ]
    go_wp2
    go_ret
    exact ⟨rfl, Below.refl _ _⟩
  · obtain ⟨g1, cap1, rfl, hg1, x1⟩ := h1.cells (i := 0) (by omega)
    obtain ⟨g2, cap2, rfl, hg2, x2⟩ := h2.cells (i := 0) (by omega)
    clear x1 x2
    rw [hlen]
    have H1 : Hid (SigRow w base (.slice (some ⟨g1, 0, none⟩) L.length cap1) L) := h1
    have H2 : Hid (SigRow w base (.slice (some ⟨g2, 0, none⟩) L.length cap2) M) := by rw [hlen] at h2; exact h2
    have HD : Hid (L.map Sg.data = M.map Sg.data) := hd
    clear h1 h2 hd
    generalize hN : L.length = N at h0 hn
    have HN : Hid (L.length = N) := hN
    have HM : Hid (M.length = N) := by rw [hlen, hN]; rfl
    clear hlen hN
    go_enter Yba.func9, Yba.ntmps9
    go_wp2
    go_loopg [13] N (fun kx s13 wr => ∃ k : Nat, k ≤ N ∧ kx = N - k ∧ s13 = .int .i64 k ∧ Below w.heap.size w wr)
    case atStart => exact ⟨0, Nat.zero_le _, rfl, rfl, Below.refl _ _⟩
    case round =>
      obtain ⟨k, hk, hkx, rfl, hbel⟩ := hrel
      by_cases hlt : k < N
      · have hsz := hbel.size
        obtain ⟨g, cap, e, _, a1, a2, a3⟩ := (H1.out.below hbel).cells (i := k) (by rw [HN.out]; exact hlt)
        obtain ⟨rfl, rfl⟩ : g1 = g ∧ cap1 = cap := by simp only [Value.slice.injEq, Option.some.injEq, Addr.mk.injEq] at e; exact ⟨e.1.1, e.2.2⟩
        obtain ⟨g, cap, e', _, b1, b2, b3⟩ := (H2.out.below hbel).cells (i := k) (by rw [HM.out]; exact hlt)
        obtain ⟨rfl, rfl⟩ : g2 = g ∧ cap2 = cap := by simp only [Value.slice.injEq, Option.some.injEq, Addr.mk.injEq] at e'; exact ⟨e'.1.1, e'.2.2⟩
        have hdk : (L[k]'(by rw [HN.out]; exact hlt)).data = (M[k]'(by rw [HM.out]; exact hlt)).data := by
          have h := congrArg (fun l => l[k]?) HD.out
          simpa [show k < L.length by rw [HN.out]; exact hlt, show k < M.length by rw [HM.out]; exact hlt] using h
        have ok1 := (H1.out.below hbel).2 (L[k]'(by rw [HN.out]; exact hlt)) (List.getElem_mem _)
        have ok2 := (H2.out.below hbel).2 (M[k]'(by rw [HM.out]; exact hlt)) (List.getElem_mem _)
        generalize (L[k]'(by rw [HN.out]; exact hlt)) = s at *
        generalize (M[k]'(by rw [HM.out]; exact hlt)) = t at *
        obtain ⟨sn, sk, sp, sl, sc, sb⟩ := s
        obtain ⟨tn, tk, tp, tl, tc, tb⟩ := t
        have hc : ∀ m, Calls Yba.prog 11 #[.agg #[.string sn, .int .u32 sk, .slice sp sl sc], .agg #[.string tn, .int .u32 tk, .slice tp tl tc]] (wr.drewN m) fun e w' => e = .returned (.bool true) ∧ w' = ((wr.drewN m).alloc (.cells #[.string sn, .int .u32 sk, .slice sp sl sc] 32)).alloc (.cells #[.string tn, .int .u32 tk, .slice tp tl tc] 32) := fun m => same_true _ _ _ hdk ok1 ok2
        clear e e' hdk ok1 ok2
        simp only at a1 a2 a3 b1 b2 b3
        have hki : (0 : Int) ≤ (k : Int) := by omega
        have hkN : (k : Int) < (N : Int) := by omega
        clear H1 H2 HD
        go_wp2_with fail
        go_region_held3 (fun w' => w'.cell? ⟨g1, k * 3, none⟩ = some (.string sn) ∧ w'.cell? ⟨g1, k * 3 + 1, none⟩ = some (.int .u32 sk) ∧ w'.cell? ⟨g1, k * 3 + 2, none⟩ = some (.slice sp sl sc) ∧ w'.cell? ⟨g2, k * 3, none⟩ = some (.string tn) ∧ w'.cell? ⟨g2, k * 3 + 1, none⟩ = some (.int .u32 tk) ∧ w'.cell? ⟨g2, k * 3 + 2, none⟩ = some (.slice tp tl tc)) (go_keep)
          (first | (go_at_call 11; refine (hc 1).mono ?_; rintro e w' ⟨rfl, rfl⟩))
        go_wp2_with fail
        go_roundg (N - (k + 1))
        case measure => omega
        case rel => exact ⟨k + 1, by omega, rfl, by go_num, ((show Below w.heap.size w (wr.drewN 1) from hbel.drew).alloc (by exact hsz) _).alloc (by simp; omega) _⟩
      · obtain rfl : k = N := by omega
        go_wp2
        go_ret
        exact ⟨rfl, hbel⟩
end Go.Proofs.Ybulkakhw
