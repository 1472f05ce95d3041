/- The walks of the closure of 'unionAt', of 'remembered', and of 'unionAt' above a leaf. -/
import Derived.Test.YbulkakkoTreeD
namespace Go.Proofs.Ybulkakko
open Go.RowKit
set_option linter.unusedVariables false
set_option linter.unusedSimpArgs false

/-- The variables that the closure captured, and the two trees. -/
structure Cap (w : World) (m sb p4 p5 p6 p7 h b b' : Nat) (x x' n n' : Int) (l r l' r' : T) : Prop where
  c4 : w.cell? ⟨p4, 0, none⟩ = some (.pointer (some ⟨sb, 0, none⟩))
  c5 : w.cell? ⟨p5, 0, none⟩ = some (.pointer (some ⟨b, 0, none⟩))
  c6 : w.cell? ⟨p6, 0, none⟩ = some (.pointer (some ⟨b', 0, none⟩))
  c7 : w.cell? ⟨p7, 0, none⟩ = some (.int .i64 (h + 1))
  sb3 : w.cell? ⟨sb, 3, none⟩ = some (.map (some m))
  s : In w (.node b x l r n)
  t : In w (.node b' x' l' r' n')
  ws : WF (h + 1) (.node b x l r n)
  wt : WF (h + 1) (.node b' x' l' r' n')

theorem Cap.fr {w w' : World} {m sb p4 p5 p6 p7 h b b' : Nat} {x x' n n' : Int} {l r l' r' : T} (k : Cap w m sb p4 p5 p6 p7 h b b' x x' n n' l r l' r') (f : Fr m w w') : Cap w' m sb p4 p5 p6 p7 h b b' x x' n n' l r l' r' :=
  ⟨f.cell k.c4, f.cell k.c5, f.cell k.c6, f.cell k.c7, f.cell k.sb3, k.s.fr f, k.t.fr f, k.ws, k.wt⟩

theorem bFr {m : Nat} {w w' : World} {A : Nat} {cs : Array Value} {t : TypeId} {p : Nat × Nat} (hb : w.heap[A]? = some (.cells cs t p)) (h : Fr m w w') : w'.heap[A]? = some (.cells cs t p) := h.block hb

/-- What the closure hands back. -/
def Both (h : Nat) (s t : T) (v : T) : Prop := ∃ L R, Uni h s.left t.left L ∧ Uni h s.right t.right R ∧ JoinR L R [s, t] v

set_option maxRecDepth 100000 in
set_option maxHeartbeats 8000000 in
theorem closure_any (h : Nat) (IH : UnionAt h) (hh : h ≤ 5) (m sb p4 p5 p6 p7 b b' N : Nat) (x x' n n' : Int) (l r l' r' : T) (w : World) (K : Cap w m sb p4 p5 p6 p7 h b b' x x' n n' l r l' r') (hM : MInv w m N) (hN : N + cst h + cst h ≤ 60000) :
    Calls Yba.prog 28 #[.pointer (some ⟨p4, 0, none⟩), .pointer (some ⟨p5, 0, none⟩), .pointer (some ⟨p6, 0, none⟩), .pointer (some ⟨p7, 0, none⟩)] w fun e w' =>
      ∃ v : T, e = .returned (.pointer v.addr) ∧ In w' v ∧ Fr m w w' ∧ MInv w' m (N + cst h + cst h) ∧ Both h (.node b x l r n) (.node b' x' l' r' n') v := by
  have c4 := K.c4
  have c5 := K.c5
  have c6 := K.c6
  have c7 := K.c7
  have d1 := cell_of K.s.1 1 (.pointer l.addr) rfl
  have d2 := cell_of K.s.1 2 (.pointer r.addr) rfl
  have d3 := cell_of K.t.1 1 (.pointer l'.addr) rfl
  have d4 := cell_of K.t.1 2 (.pointer r'.addr) rfl
  have F0 : Fr m w w := Fr.refl hM.ex
  have HC1 : Hid (∀ W : World, Fr m w W → MInv W m N → Calls Yba.prog 19 #[.pointer (some ⟨sb, 0, none⟩), .pointer l.addr, .pointer l'.addr, .int .i64 h] W fun e w' =>
      ∃ v : T, e = .returned (.pointer v.addr) ∧ In w' v ∧ Fr m W w' ∧ MInv w' m (N + cst h) ∧ Uni h l l' v) := fun W f hm =>
    IH sb m N l l' W (f.cell K.sb3) (K.s.2.1.fr f) (K.t.2.1.fr f) K.ws.1 K.wt.1 hm (by omega)
  have HC2 : Hid (∀ W : World, Fr m w W → MInv W m (N + cst h) → Calls Yba.prog 19 #[.pointer (some ⟨sb, 0, none⟩), .pointer r.addr, .pointer r'.addr, .int .i64 h] W fun e w' =>
      ∃ v : T, e = .returned (.pointer v.addr) ∧ In w' v ∧ Fr m W w' ∧ MInv w' m (N + cst h + cst h) ∧ Uni h r r' v) := fun W f hm =>
    IH sb m (N + cst h) r r' W (f.cell K.sb3) (K.s.2.2.fr f) (K.t.2.2.fr f) K.ws.2.1 K.wt.2.1 hm hN
  have HS : Hid (In w (.node b x l r n)) := K.s
  have HT : Hid (In w (.node b' x' l' r' n')) := K.t
  have hhw : wrap64 ((h : Int) + 1 - 1) = (h : Int) := by rw [IntWalk.wrap64_in _ (by omega)]; omega
  have hhw2 : IntKind.i64.wrap (h : Int) = (h : Int) := Go.wrap_small h (by omega) (by omega)
  clear K IH
  go_enter Yba.func28, Yba.ntmps28
  go_wp2_with fail
  go_region_held3 (fun W => W.cell? ⟨p4, 0, none⟩ = some (.pointer (some ⟨sb, 0, none⟩)) ∧ W.cell? ⟨p5, 0, none⟩ = some (.pointer (some ⟨b, 0, none⟩)) ∧ W.cell? ⟨p6, 0, none⟩ = some (.pointer (some ⟨b', 0, none⟩)) ∧ W.cell? ⟨p7, 0, none⟩ = some (.int .i64 (h + 1)) ∧ W.cell? ⟨b, 1, none⟩ = some (.pointer l.addr) ∧ W.cell? ⟨b, 2, none⟩ = some (.pointer r.addr) ∧ W.cell? ⟨b', 1, none⟩ = some (.pointer l'.addr) ∧ W.cell? ⟨b', 2, none⟩ = some (.pointer r'.addr))
    (first
      | (dsimp only; go_split_ands; exact ⟨by assumption, by assumption, by assumption, by assumption, by assumption, by assumption, by assumption, by assumption⟩)
      | (go_split_ands; exact ⟨Fr.cell (by assumption) (by assumption), Fr.cell (by assumption) (by assumption), Fr.cell (by assumption) (by assumption), Fr.cell (by assumption) (by assumption), Fr.cell (by assumption) (by assumption), Fr.cell (by assumption) (by assumption), Fr.cell (by assumption) (by assumption), Fr.cell (by assumption) (by assumption)⟩)
      | (go_split_ands; exact ⟨kOld (by assumption) (by assumption), kOld (by assumption) (by assumption), kOld (by assumption) (by assumption), kOld (by assumption) (by assumption), kOld (by assumption) (by assumption), kOld (by assumption) (by assumption), kOld (by assumption) (by assumption), kOld (by assumption) (by assumption)⟩)
      | go_keep)
    (first
      | (go_at_call 19; with_reducible refine (HC1.out _ (by repeat (first | exact F0 | apply Fr.drew | apply Fr.alloc | refine Fr.trans ?_ (by assumption))) (by repeat (first | assumption | apply MInv.drew | apply MInv.alloc))).mono ?_; rintro e wA ⟨vA, rfl, IA, FA, MA, RA⟩; dsimp only)
      | (go_at_call 19; with_reducible refine (HC2.out _ (by repeat (first | exact F0 | apply Fr.drew | apply Fr.alloc | refine Fr.trans ?_ (by assumption))) (by repeat (first | assumption | apply MInv.drew | apply MInv.alloc))).mono ?_; rintro e wB ⟨vB, rfl, IB, FB, MB, RB⟩; dsimp only)
      | (go_at_call 29; refine (joined_any vA vB _ [.node b x l r n, .node b' x' l' r' n'] _ (by with_reducible repeat (first | assumption | apply In.drew | apply In.alloc | refine In.fr ?_ (by assumption))) (by with_reducible repeat (first | assumption | apply In.drew | apply In.alloc | refine In.fr ?_ (by assumption)))
          (row2n (by with_reducible repeat (first | exact alloc_at _ _ | apply bDrew | apply bAlloc | refine bFr ?_ (by assumption))) (by with_reducible repeat (first | exact HS.out | apply In.drew | apply In.alloc | refine In.fr ?_ (by assumption))) (by with_reducible repeat (first | exact HT.out | apply In.drew | apply In.alloc | refine In.fr ?_ (by assumption)))) (by simp)).mono ?_; rintro e wD ⟨vD, rfl, ID, BD, RD⟩; dsimp only))
  all_goals go_wp2
  all_goals go_ret
  all_goals exact ⟨vD, rfl, ID, by with_reducible repeat (first | exact F0 | apply Fr.drew | apply Fr.alloc | refine Fr.below ?_ (by assumption) | refine Fr.trans ?_ (by assumption)), by with_reducible repeat (first | assumption | apply MInv.drew | apply MInv.alloc | refine MInv.below ?_ (by assumption)), vA, vB, RA, RB, RD⟩

theorem Both.uni {h : Nat} {s t v : T} (hb : Both h s t v) (h1 : s ≠ .nil) (h2 : t ≠ .nil) (h3 : s ≠ t) : Uni (h + 1) s t v := by
  obtain ⟨L, R, a, b, c⟩ := hb
  exact .join h s t L R v h1 h2 h3 a b c

set_option maxRecDepth 100000 in
set_option maxHeartbeats 8000000 in
/-- 'remembered' where nothing is remembered. -/
theorem rem_small (h m p4 p5 p6 p7 b b' : Nat) (n n' : Int) (w : World) (Q : T → World → Prop) (hs : (h : Int) + 1 < 3 ∨ (¬ (h : Int) + 1 < 3 ∧ n < 64) ∨ (¬ (h : Int) + 1 < 3 ∧ ¬ n < 64 ∧ n' < 64))
    (hn : w.cell? ⟨b, 3, none⟩ = some (.int .i64 n)) (hn' : w.cell? ⟨b', 3, none⟩ = some (.int .i64 n'))
    (hc : Calls Yba.prog 28 #[.pointer (some ⟨p4, 0, none⟩), .pointer (some ⟨p5, 0, none⟩), .pointer (some ⟨p6, 0, none⟩), .pointer (some ⟨p7, 0, none⟩)] w fun e w' => ∃ v : T, e = .returned (.pointer v.addr) ∧ Q v w') :
    Calls Yba.prog 27 #[.map (some m), .pointer (some ⟨b, 0, none⟩), .pointer (some ⟨b', 0, none⟩), .int .i64 (h + 1), .func (.func 28) #[] #[.pointer (some ⟨p4, 0, none⟩), .pointer (some ⟨p5, 0, none⟩), .pointer (some ⟨p6, 0, none⟩), .pointer (some ⟨p7, 0, none⟩)]] w fun e w' =>
      ∃ v : T, e = .returned (.pointer v.addr) ∧ Q v w' := by
  have HC : Hid (Calls Yba.prog 28 #[.pointer (some ⟨p4, 0, none⟩), .pointer (some ⟨p5, 0, none⟩), .pointer (some ⟨p6, 0, none⟩), .pointer (some ⟨p7, 0, none⟩)] w fun e w' => ∃ v : T, e = .returned (.pointer v.addr) ∧ Q v w') := hc
  clear hc
  rcases hs with hs | ⟨hs, h2⟩ | ⟨hs, h2, h3⟩
  · have hd1 : decide ((h : Int) + 1 < 3) = true := decide_eq_true hs
    go_enter Yba.func27, Yba.ntmps27
    go_wp2_with fail
    refine HC.out.mono ?_
    rintro e w' ⟨v, rfl, hq⟩
    have HQ : Hid (Q v w') := hq
    clear hq
    go_wp2
    go_ret
    exact ⟨v, rfl, HQ.out⟩
  · have hd1 : decide ((h : Int) + 1 < 3) = false := decide_eq_false hs
    have hd2 : decide (n < 64) = true := decide_eq_true h2
    go_enter Yba.func27, Yba.ntmps27
    go_wp2_with fail
    refine HC.out.mono ?_
    rintro e w' ⟨v, rfl, hq⟩
    have HQ : Hid (Q v w') := hq
    clear hq
    go_wp2
    go_ret
    exact ⟨v, rfl, HQ.out⟩
  · have hd1 : decide ((h : Int) + 1 < 3) = false := decide_eq_false hs
    have hd2 : decide (n < 64) = false := decide_eq_false h2
    have hd3 : decide (n' < 64) = true := decide_eq_true h3
    go_enter Yba.func27, Yba.ntmps27
    go_wp2_with fail
    refine HC.out.mono ?_
    rintro e w' ⟨v, rfl, hq⟩
    have HQ : Hid (Q v w') := hq
    clear hq
    go_wp2
    go_ret
    exact ⟨v, rfl, HQ.out⟩

theorem MInv.put {w : World} {m N c : Nat} {es' : Array MapEntry} {es : Array MapEntry} {c0 : Nat} (hm : w.heap[m]? = some (.map es c0)) (he : Entries w Rm es') (hs : es'.size ≤ N) :
    MInv { w with heap := w.heap.setIfInBounds m (.map es' c) } m N ∧ Fr m w { w with heap := w.heap.setIfInBounds m (.map es' c) } := by
  have hlt := lt_of_block hm
  have hself : (w.heap.setIfInBounds m (.map es' c))[m]? = some (.map es' c) := by simp [hlt]
  have hfr : Fr m w { w with heap := w.heap.setIfInBounds m (.map es' c) } := by
    refine ⟨⟨_, _, hm⟩, ⟨_, _, hself⟩, ⟨rfl, rfl, rfl, by simp, fun k hk hne => ?_⟩⟩
    have : m ≠ k := fun e => hne (by rw [e])
    exact Array.getElem?_setIfInBounds_ne this
  refine ⟨⟨es', c, hself, hs, fun e he' => ?_⟩, hfr⟩
  obtain ⟨s, t, v, k1, k2, i1, i2, i3, k3⟩ := he e he'
  exact ⟨s, t, v, k1, k2, i1.fr hfr, i2.fr hfr, i3.fr hfr, k3⟩

set_option maxRecDepth 100000 in
set_option maxHeartbeats 8000000 in
/-- 'remembered' where it looks into the map. -/
theorem rem_big (h : Nat) (IH : UnionAt h) (hh : h ≤ 5) (m sb p4 p5 p6 p7 b b' N : Nat) (x x' n n' : Int) (l r l' r' : T) (w : World) (hne : T.node b x l r n ≠ .node b' x' l' r' n') (K : Cap w m sb p4 p5 p6 p7 h b b' x x' n n' l r l' r') (hM : MInv w m N) (hN : N + cst h + cst h + 1 ≤ 60000)
    (h1 : ¬ (h : Int) + 1 < 3) (h2 : ¬ n < 64) (h3 : ¬ n' < 64) :
    Calls Yba.prog 27 #[.map (some m), .pointer (some ⟨b, 0, none⟩), .pointer (some ⟨b', 0, none⟩), .int .i64 (h + 1), .func (.func 28) #[] #[.pointer (some ⟨p4, 0, none⟩), .pointer (some ⟨p5, 0, none⟩), .pointer (some ⟨p6, 0, none⟩), .pointer (some ⟨p7, 0, none⟩)]] w fun e w' =>
      ∃ v : T, e = .returned (.pointer v.addr) ∧ In w' v ∧ Fr m w w' ∧ MInv w' m (N + cst h + cst h + 1) ∧ Uni (h + 1) (.node b x l r n) (.node b' x' l' r' n') v := by
  have hd1 : decide ((h : Int) + 1 < 3) = false := decide_eq_false h1
  have hd2 : decide (n < 64) = false := decide_eq_false h2
  have hd3 : decide (n' < 64) = false := decide_eq_false h3
  have hn := cell_of K.s.1 3 (.int .i64 n) rfl
  have hn' := cell_of K.t.1 3 (.int .i64 n') rfl
  obtain ⟨W, hW⟩ : ∃ W, W = w.alloc (.cells #[.pointer (some ⟨b, 0, none⟩), .pointer (some ⟨b', 0, none⟩)] 167 (0, 0)) := ⟨_, rfl⟩
  have BW : Below w.heap.size w W := by rw [hW]; exact kA (Below.refl _ _) _
  have FW : Fr m w W := Fr.of_below hM.ex BW
  have KW := K.fr FW
  have MW := hM.below BW
  have hkb : W.heap[w.heap.size]? = some (.cells #[.pointer (some ⟨b, 0, none⟩), .pointer (some ⟨b', 0, none⟩)] 167 (0, 0)) := by rw [hW]; exact alloc_at _ _
  have hcl := closure_any h IH hh m sb p4 p5 p6 p7 b b' N x x' n n' l r l' r' W KW MW (by omega)
  have HCL : Hid (Calls Yba.prog 28 #[.pointer (some ⟨p4, 0, none⟩), .pointer (some ⟨p5, 0, none⟩), .pointer (some ⟨p6, 0, none⟩), .pointer (some ⟨p7, 0, none⟩)] W fun e w' =>
      ∃ v : T, e = .returned (.pointer v.addr) ∧ In w' v ∧ Fr m W w' ∧ MInv w' m (N + cst h + cst h) ∧ Both h (.node b x l r n) (.node b' x' l' r' n') v) := hcl
  obtain ⟨es, c, hm, hsz, hE⟩ := MW
  have hlk := run_lookup KW.s KW.t hm hE
  have HM2 : Hid (MInv W m N) := ⟨es, c, hm, hsz, hE⟩
  have HK : Hid (Cap W m sb p4 p5 p6 p7 h b b' x x' n n' l r l' r') := KW
  have HNE : Hid (T.node b x l r n ≠ .node b' x' l' r' n') := hne
  have HFW : Hid (Fr m w W) := FW
  have HKB : Hid (W.heap[w.heap.size]? = some (.cells #[.pointer (some ⟨b, 0, none⟩), .pointer (some ⟨b', 0, none⟩)] 167 (0, 0))) := hkb
  have HW : Hid (W = w.alloc (.cells #[.pointer (some ⟨b, 0, none⟩), .pointer (some ⟨b', 0, none⟩)] 167 (0, 0))) := hW
  clear K IH KW hcl BW FW hkb hM hE hm hne
  rcases hlk with hlk | ⟨v, hlk, hv, hR⟩
  · replace hlk : (Instr.lookup 28 (.map (some m)) (.agg #[.pointer (some ⟨b, 0, none⟩), .pointer (some ⟨b', 0, none⟩)]) true).run Yba.prog W = .ok (.tuple #[.pointer none, .bool false]) W := hlk
    rw [hW] at hlk
    clear hW
    go_enter Yba.func27, Yba.ntmps27
    go_wp2_with fail
    rw [← HW.out]
    refine HCL.out.mono ?_
    rintro e wC ⟨v, rfl, IC, FC, ⟨es', c', hm', hsz', hE'⟩, hB⟩
    have hU := hB.uni (by simp) (by simp) HNE.out
    have hRm : Rm (.node b x l r n) (.node b' x' l' r' n') v := ⟨h + 1, by simp, HK.out.ws, HK.out.wt, hU⟩
    obtain ⟨es2, c2, hup, hE2, hsz2⟩ := run_mapUpdate (HK.out.s.fr FC) (HK.out.t.fr FC) IC hRm hm' hE'
    replace hup : (Instr.mapUpdate 28 (.map (some m)) (.agg #[.pointer (some ⟨b, 0, none⟩), .pointer (some ⟨b', 0, none⟩)]) (.pointer v.addr)).run Yba.prog wC = .ok () { wC with heap := wC.heap.setIfInBounds m (.map es2 c2) } := hup
    obtain ⟨hM3, hF3⟩ := MInv.put (N := N + cst h + cst h + 1) hm' hE2 (by omega) (c := c2)
    have HM3 : Hid (MInv { wC with heap := wC.heap.setIfInBounds m (.map es2 c2) } m (N + cst h + cst h + 1)) := hM3
    have HF3 : Hid (Fr m wC { wC with heap := wC.heap.setIfInBounds m (.map es2 c2) }) := hF3
    have HI3 : Hid (In { wC with heap := wC.heap.setIfInBounds m (.map es2 c2) } v) := IC.fr hF3
    have e0 := cell_of (FC.block HKB.out) 0 _ rfl
    have e1 := cell_of (FC.block HKB.out) 1 _ rfl
    have HU : Hid (Uni (h + 1) (.node b x l r n) (.node b' x' l' r' n') v) := hU
    have HFC : Hid (Fr m W wC) := FC
    have hgo : (Builtin.len_ #[28] 3 #[.map (some m)]).run Yba.prog wC = .ok (.int .i64 es'.size) wC := by
      simp [Builtin.len_, run_underlying Yba.underlying28, MapKept.run_getObj_map hm', goInt]
    have hlen : decide ((65536 : Int) ≤ (es'.size : Int)) = false := decide_eq_false (by omega)
    generalize (es'.size : Int) = sz at *
    clear hsz hsz' hsz2
    clear hE' hE2 hB hU hRm hM3 hF3 IC FC hm'
    generalize { wC with heap := wC.heap.setIfInBounds m (.map es2 c2) } = wE at *
    go_wp2
    go_ret
    exact ⟨v, rfl, HI3.out, (HFW.out.trans HFC.out).trans HF3.out, HM3.out, HU.out⟩
  · replace hlk : (Instr.lookup 28 (.map (some m)) (.agg #[.pointer (some ⟨b, 0, none⟩), .pointer (some ⟨b', 0, none⟩)]) true).run Yba.prog W = .ok (.tuple #[.pointer v.addr, .bool true]) W := hlk
    rw [hW] at hlk
    clear hW
    have HV : Hid (In W v) := hv
    have HRM : Hid (Rm (.node b x l r n) (.node b' x' l' r' n') v) := hR
    clear hv hR
    go_enter Yba.func27, Yba.ntmps27
    go_wp2_with fail
    go_ret
    rw [← HW.out]
    obtain ⟨h', -, w1, w2, hu⟩ := HRM.out
    obtain rfl : h' = h + 1 := w1.height HK.out.ws (by simp)
    exact ⟨v, rfl, HV.out, HFW.out, HM2.out.mono (by omega), hu⟩
set_option maxRecDepth 100000 in
set_option maxHeartbeats 4000000 in
theorem unionS (h : Nat) (IH : UnionAt h) (hh : h ≤ 5) (sb m N b b' : Nat) (x x' n n' : Int) (l r l' r' : T) (w : World) (hsb : w.cell? ⟨sb, 3, none⟩ = some (.map (some m))) (hs : In w (.node b x l r n)) (ht : In w (.node b' x' l' r' n')) (hne : T.node b x l r n ≠ .node b' x' l' r' n')
    (ws : WF (h + 1) (.node b x l r n)) (wt : WF (h + 1) (.node b' x' l' r' n')) (hM : MInv w m N) (hN : N + cst h + cst h + 1 ≤ 60000) :
    Calls Yba.prog 19 #[.pointer (some ⟨sb, 0, none⟩), .pointer (some ⟨b, 0, none⟩), .pointer (some ⟨b', 0, none⟩), .int .i64 (h + 1)] w fun e w' =>
      ∃ v : T, e = .returned (.pointer v.addr) ∧ In w' v ∧ Fr m w w' ∧ MInv w' m (N + cst h + cst h + 1) ∧ Uni (h + 1) (.node b x l r n) (.node b' x' l' r' n') v := by
  have hq : ∀ o1 o2 o3 o4, (binOp .eql 31 (.pointer (some ⟨b, 0, none⟩)) (.pointer (some ⟨b', 0, none⟩))).run Yba.prog ((((w.alloc o1).alloc o2).alloc o3).alloc o4) = .ok (.bool false) ((((w.alloc o1).alloc o2).alloc o3).alloc o4) := fun o1 o2 o3 o4 => by
    have := run_eql_tree ((((hs.alloc o1).alloc o2).alloc o3).alloc o4) ((((ht.alloc o1).alloc o2).alloc o3).alloc o4)
    rw [decide_eq_false hne] at this
    exact this
  have HS : Hid (In w (.node b x l r n)) := hs
  have HT : Hid (In w (.node b' x' l' r' n')) := ht
  have HWS : Hid (WF (h + 1) (.node b x l r n)) := ws
  have HWT : Hid (WF (h + 1) (.node b' x' l' r' n')) := wt
  have HNE : Hid (T.node b x l r n ≠ .node b' x' l' r' n') := hne
  have HM : Hid (MInv w m N) := hM
  have HIH : Hid (UnionAt h) := IH
  clear hs ht ws wt hM hne IH
  go_enter Yba.func19, Yba.ntmps19
  go_wp2_with fail
  generalize hw4 : World.alloc (World.alloc (World.alloc (World.alloc w _) _) _) _ = wq
  obtain ⟨k1, k2, k3, k4, B4⟩ := boxes hw4
  have c4 := cell_of k1 0 _ rfl
  have c5 := cell_of k2 0 _ rfl
  have c6 := cell_of k3 0 _ rfl
  have c7 := cell_of k4 0 _ rfl
  have c8 := kOld B4 hsb
  have HF : Hid (Fr m w wq) := Fr.of_below HM.out.ex B4
  have MQ := HM.out.below B4
  have hS2 := HS.out.below B4
  have hT2 := HT.out.below B4
  generalize w.heap.size + 1 + 1 + 1 = p7 at *
  generalize w.heap.size + 1 + 1 = p6 at *
  generalize w.heap.size + 1 = p5 at *
  generalize w.heap.size = p4 at *
  have hc : ∀ W : World, Below wq.heap.size wq W → Calls Yba.prog 27 #[.map (some m), .pointer (some ⟨b, 0, none⟩), .pointer (some ⟨b', 0, none⟩), .int .i64 (h + 1), .func (.func 28) #[] #[.pointer (some ⟨p4, 0, none⟩), .pointer (some ⟨p5, 0, none⟩), .pointer (some ⟨p6, 0, none⟩), .pointer (some ⟨p7, 0, none⟩)]] W fun e w' =>
      ∃ v : T, e = .returned (.pointer v.addr) ∧ In w' v ∧ Fr m wq w' ∧ MInv w' m (N + cst h + cst h + 1) ∧ Uni (h + 1) (.node b x l r n) (.node b' x' l' r' n') v := by
    intro W bW
    have fW : Fr m wq W := Fr.of_below MQ.ex bW
    have KW : Cap W m sb p4 p5 p6 p7 h b b' x x' n n' l r l' r' := ⟨fW.cell c4, fW.cell c5, fW.cell c6, fW.cell c7, fW.cell c8, hS2.fr fW, hT2.fr fW, HWS.out, HWT.out⟩
    have MW := MQ.below bW
    have hn := cell_of KW.s.1 3 (.int .i64 n) rfl
    have hn' := cell_of KW.t.1 3 (.int .i64 n') rfl
    by_cases hbig : ¬ (h : Int) + 1 < 3 ∧ ¬ n < 64 ∧ ¬ n' < 64
    · refine (rem_big h HIH.out hh m sb p4 p5 p6 p7 b b' N x x' n n' l r l' r' W HNE.out KW MW hN hbig.1 hbig.2.1 hbig.2.2).mono ?_
      rintro e w' ⟨v, rfl, i1, f1, m1, u1⟩
      exact ⟨v, rfl, i1, fW.trans f1, m1, u1⟩
    · have hcl := closure_any h HIH.out hh m sb p4 p5 p6 p7 b b' N x x' n n' l r l' r' W KW MW (by omega)
      refine (rem_small h m p4 p5 p6 p7 b b' n n' W (fun v w' => In w' v ∧ Fr m W w' ∧ MInv w' m (N + cst h + cst h) ∧ Both h (.node b x l r n) (.node b' x' l' r' n') v) (by omega) hn hn' hcl).mono ?_
      rintro e w' ⟨v, rfl, i1, f1, m1, u1⟩
      exact ⟨v, rfl, i1, fW.trans f1, m1.mono (by omega), u1.uni (by simp) (by simp) HNE.out⟩
  have HC : Hid (∀ W : World, Below wq.heap.size wq W → Calls Yba.prog 27 #[.map (some m), .pointer (some ⟨b, 0, none⟩), .pointer (some ⟨b', 0, none⟩), .int .i64 (h + 1), .func (.func 28) #[] #[.pointer (some ⟨p4, 0, none⟩), .pointer (some ⟨p5, 0, none⟩), .pointer (some ⟨p6, 0, none⟩), .pointer (some ⟨p7, 0, none⟩)]] W fun e w' =>
      ∃ v : T, e = .returned (.pointer v.addr) ∧ In w' v ∧ Fr m wq w' ∧ MInv w' m (N + cst h + cst h + 1) ∧ Uni (h + 1) (.node b x l r n) (.node b' x' l' r' n') v) := hc
  clear hw4 hq k1 k2 k3 k4 HS HT hc hS2 hT2 MQ B4 hsb HM HIH
  go_region_held3 (fun W => W.cell? ⟨p4, 0, none⟩ = some (.pointer (some ⟨sb, 0, none⟩)) ∧ W.cell? ⟨p5, 0, none⟩ = some (.pointer (some ⟨b, 0, none⟩)) ∧ W.cell? ⟨p6, 0, none⟩ = some (.pointer (some ⟨b', 0, none⟩)) ∧ W.cell? ⟨p7, 0, none⟩ = some (.int .i64 (h + 1)) ∧ W.cell? ⟨sb, 3, none⟩ = some (.map (some m)))
    (first
      | (dsimp only; go_split_ands; exact ⟨by assumption, by assumption, by assumption, by assumption, by assumption⟩)
      | (exact ⟨Fr.cell (by assumption) c4, Fr.cell (by assumption) c5, Fr.cell (by assumption) c6, Fr.cell (by assumption) c7, Fr.cell (by assumption) c8⟩)
      | go_keep)
    (first
      | (go_at_call 27; with_reducible refine (HC.out _ (by repeat (first | exact Below.refl _ _ | apply Below.drew | apply kA))).mono ?_; rintro e wD ⟨vD, rfl, ID, FD, MD, RD⟩; dsimp only))
  go_wp2
  go_ret
  exact ⟨vD, rfl, ID, HF.out.trans FD, MD, RD⟩

theorem union_all : ∀ h, h ≤ 6 → UnionAt h := by
  intro h
  induction h with
  | zero =>
    intro _ sb m N s t w hsb hs ht ws wt hM hN
    have fin : ∀ {w' : World} {v : T}, Below w.heap.size w w' → In w v → Uni 0 s t v → ∃ v' : T, Ending.returned (.pointer v.addr) = .returned (.pointer v'.addr) ∧ In w' v' ∧ Fr m w w' ∧ MInv w' m (N + cst 0) ∧ Uni 0 s t v' :=
      fun {w' v} hb hv hu => ⟨v, rfl, hv.below hb, Fr.of_below hM.ex hb, hM.below hb, hu⟩
    cases s with
    | nil => exact (union_nilL sb 0 t w ht).mono fun e w' ⟨he, hb⟩ => by subst he; exact fin hb ht (.nilL _ _)
    | node b x l r n =>
      cases t with
      | nil => exact (union_nilR sb 0 b w).mono fun e w' ⟨he, hb⟩ => by subst he; exact fin (v := .node b x l r n) hb hs (.nilR _ _)
      | node b' x' l' r' n' =>
        by_cases hne : T.node b x l r n = .node b' x' l' r' n'
        · cases hne
          exact (union_same sb 0 b w).mono fun e w' ⟨he, hb⟩ => by subst he; exact fin (v := .node b x l r n) hb hs (.same _ _)
        · refine (union0 sb b b' x x' n n' l r l' r' w hs ht hne).mono ?_
          rintro e w' ⟨v, rfl, i1, b1, r1⟩
          exact ⟨v, rfl, i1, Fr.of_below hM.ex b1, hM.below b1, .leaf _ _ _ (by simp) (by simp) hne r1⟩
  | succ h IH =>
    intro hh sb m N s t w hsb hs ht ws wt hM hN
    have IH' := IH (by omega)
    have fin : ∀ {w' : World} {v : T}, Below w.heap.size w w' → In w v → Uni (h + 1) s t v → ∃ v' : T, Ending.returned (.pointer v.addr) = .returned (.pointer v'.addr) ∧ In w' v' ∧ Fr m w w' ∧ MInv w' m (N + cst (h + 1)) ∧ Uni (h + 1) s t v' :=
      fun {w' v} hb hv hu => ⟨v, rfl, hv.below hb, Fr.of_below hM.ex hb, (hM.below hb).mono (by omega), hu⟩
    cases s with
    | nil => exact (union_nilL sb (h + 1) t w ht).mono fun e w' ⟨he, hb⟩ => by subst he; exact fin hb ht (.nilL _ _)
    | node b x l r n =>
      cases t with
      | nil => exact (union_nilR sb (h + 1) b w).mono fun e w' ⟨he, hb⟩ => by subst he; exact fin (v := .node b x l r n) hb hs (.nilR _ _)
      | node b' x' l' r' n' =>
        by_cases hne : T.node b x l r n = .node b' x' l' r' n'
        · cases hne
          exact (union_same sb (h + 1) b w).mono fun e w' ⟨he, hb⟩ => by subst he; exact fin (v := .node b x l r n) hb hs (.same _ _)
        · have e1 : N + cst h + cst h + 1 = N + cst (h + 1) := by simp only [cst]; omega
          have := unionS h IH' (by omega) sb m N b b' x x' n n' l r l' r' w hsb hs ht hne ws wt hM (by omega)
          rw [e1] at this
          have e2 : ((h + 1 : Nat) : Int) = (h : Int) + 1 := by push_cast; rfl
          rw [e2]
          exact this

/-- 'sets.union(a, b)'. -/
theorem union_any (h : Nat) (hh : h ≤ 5) (sb m N : Nat) (s t : T) (w : World) (h0 : w.cell? ⟨sb, 0, none⟩ = some (.int .i64 h)) (hsb : w.cell? ⟨sb, 3, none⟩ = some (.map (some m))) (hs : In w s) (ht : In w t) (ws : WF h s) (wt : WF h t) (hM : MInv w m N) (hN : N + cst h ≤ 60000) :
    Calls Yba.prog 10 #[.pointer (some ⟨sb, 0, none⟩), .pointer s.addr, .pointer t.addr] w fun e w' =>
      ∃ v : T, e = .returned (.pointer v.addr) ∧ In w' v ∧ Fr m w w' ∧ MInv w' m (N + cst h) ∧ Uni h s t v := by
  have hc := union_all h (by omega) sb m N s t w hsb hs ht ws wt hM hN
  clear hs ht ws wt hM hsb
  go_enter Yba.func10, Yba.ntmps10
  go_wp2_with fail
  refine hc.mono ?_
  rintro e w' ⟨v, rfl, i1, f1, m1, u1⟩
  have H : Hid (In w' v ∧ Fr m w w' ∧ MInv w' m (N + cst h) ∧ Uni h s t v) := ⟨i1, f1, m1, u1⟩
  clear i1 f1 m1 u1
  go_wp2
  go_ret
  exact ⟨v, rfl, H.out⟩
end Go.Proofs.Ybulkakko
