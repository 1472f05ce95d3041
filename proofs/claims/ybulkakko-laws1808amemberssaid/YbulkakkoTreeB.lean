/- The walks of 'bits.OnesCount64', 'len', 'leaf', 'joined'. -/
import Derived.Test.YbulkakkoTree
import Derived.WalkSpells
import Derived.Deep.LoopGhost
namespace Go.Proofs.Ybulkakko
open Go.RowKit
set_option linter.unusedVariables false
set_option linter.unusedSimpArgs false

def u1 (x : Int) : Int := IntKind.u64.wrap (bits .and .u64 (x / 2) 6148914691236517205 + bits .and .u64 x 6148914691236517205)
def u2 (x : Int) : Int := IntKind.u64.wrap (bits .and .u64 (x / 4) 3689348814741910323 + bits .and .u64 x 3689348814741910323)
def u3 (x : Int) : Int := bits .and .u64 (IntKind.u64.wrap (x / 16 + x)) 1085102592571150095
def u4 (x : Int) : Int := IntKind.u64.wrap (x + x / 256)
def u5 (x : Int) : Int := IntKind.u64.wrap (x + x / 65536)
def u6 (x : Int) : Int := IntKind.u64.wrap (x + x / 4294967296)
/-- What 'bits.OnesCount64' reckons. -/
def pc (x : Int) : Int := bits .and .i64 (wrap64 (u6 (u5 (u4 (u3 (u2 (u1 x))))))) 127

set_option maxHeartbeats 1000000 in
theorem ones_any (x : Int) (w : World) : Calls Yba.prog 44 #[.int .u64 x] w fun e w' => e = .returned (.int .i64 (pc x)) ∧ w' = w := by
  go_enter Yba.func44, Yba.ntmps44
  go_wp2
  go_ret
  generalize h1 : IntKind.u64.wrap (bits .and .u64 (x / 2) 6148914691236517205 + bits .and .u64 x 6148914691236517205) = y1
  generalize h2 : IntKind.u64.wrap (bits .and .u64 (y1 / 4) 3689348814741910323 + bits .and .u64 y1 3689348814741910323) = y2
  generalize h3 : bits .and .u64 (IntKind.u64.wrap (y2 / 16 + y2)) 1085102592571150095 = y3
  generalize h4 : IntKind.u64.wrap (y3 + y3 / 256) = y4
  generalize h5 : IntKind.u64.wrap (y4 + y4 / 65536) = y5
  generalize h6 : IntKind.u64.wrap (y5 + y5 / 4294967296) = y6
  have e : pc x = bits .and .i64 (wrap64 y6) 127 := by unfold pc u6 u5 u4 u3 u2 u1; rw [h1, h2, h3, h4, h5, h6]
  rw [e]
  exact ⟨rfl, rfl⟩

theorem alloc_at (w : World) (o : Obj) : (w.alloc o).heap[w.heap.size]? = some o := by
  show (w.heap.push o)[w.heap.size]? = some o
  simp

theorem cell_of {w : World} {b : Nat} {cs : Array Value} {t : TypeId} {n m : Nat} (h : w.heap[b]? = some (.cells cs t (n, m))) (i : Nat) (v : Value) (hi : cs[i]? = some v) : w.cell? ⟨b, i, none⟩ = some v := by
  simp [World.cell?, h, hi]

theorem len_any (t : T) (w : World) (h : In w t) : Calls Yba.prog 12 #[.pointer t.addr] w fun e w' => e = .returned (.int .i64 t.len) ∧ w' = w := by
  cases t with
  | nil =>
    simp only [T.addr]
    go_enter Yba.func12, Yba.ntmps12
    go_wp2
    go_ret
    exact ⟨rfl, rfl⟩
  | node b x l r n =>
    have c3 := cell_of h.1 3 (.int .i64 n) rfl
    simp only [T.addr]
    clear h
    go_enter Yba.func12, Yba.ntmps12
    go_wp2
    go_ret
    exact ⟨rfl, rfl⟩

/-- The row of trees 'from' lies at block A. -/
def Row (w : World) (A : Nat) (ts : List T) : Prop := ∀ i, i < ts.length → w.cell? ⟨A, i, none⟩ = some (.pointer (ts.getD i .nil).addr) ∧ In w (ts.getD i .nil)

def NoW (x : Int) (t : T) : Prop := t = .nil ∨ t.word ≠ x
def NoH (l r : T) (t : T) : Prop := t = .nil ∨ t.left ≠ l ∨ t.right ≠ r

/-- 'leaf(word, from...)'. -/
def LeafR (x : Int) (ts : List T) (v : T) : Prop :=
  (∃ k, k < ts.length ∧ v = ts.getD k .nil ∧ v ≠ .nil ∧ v.word = x ∧ ∀ j, j < k → NoW x (ts.getD j .nil)) ∨
  ((∀ j, j < ts.length → NoW x (ts.getD j .nil)) ∧ ((x = 0 ∧ v = .nil) ∨ (x ≠ 0 ∧ ∃ b, v = .node b x .nil .nil (pc x))))
/-- 'joined(left, right, from...)'. -/
def JoinR (l r : T) (ts : List T) (v : T) : Prop :=
  (∃ k, k < ts.length ∧ v = ts.getD k .nil ∧ v ≠ .nil ∧ v.left = l ∧ v.right = r ∧ ∀ j, j < k → NoH l r (ts.getD j .nil)) ∨
  ((∀ j, j < ts.length → NoH l r (ts.getD j .nil)) ∧ ((l = .nil ∧ r = .nil ∧ v = .nil) ∨ ((l ≠ .nil ∨ r ≠ .nil) ∧ ∃ b, v = .node b 0 l r (wrap64 (l.len + r.len)))))

set_option maxRecDepth 100000 in
set_option maxHeartbeats 1000000 in
theorem leaf_any (x : Int) (A : Nat) (ts : List T) (w : World) (hrow : Row w A ts) (hlen : ts.length ≤ 2) :
    Calls Yba.prog 26 #[.int .u64 x, .slice (some ⟨A, 0, none⟩) ts.length ts.length] w fun e w' => ∃ v, e = .returned (.pointer v.addr) ∧ In w' v ∧ Below w.heap.size w w' ∧ LeafR x ts v := by
  have HR : Hid (Row w A ts) := hrow
  clear hrow
  have hc := ones_any x w
  go_enter Yba.func26, Yba.ntmps26
  go_wp2
  go_loop [6, 9] (fun s6 s9 => ∃ (k : Nat), k ≤ ts.length ∧ s9 = .int .i64 k ∧ (∀ j, j < k → NoW x (ts.getD j .nil))) (fun _ s9 => ts.length - (intOf s9).toNat)
  case atStart => exact ⟨0, Nat.zero_le _, rfl, fun j hj => by omega⟩
  case round =>
    obtain ⟨k, hk, rfl, hno⟩ := hrel
    have HNO : Hid (∀ j, j < k → NoW x (ts.getD j .nil)) := hno
    clear hno
    by_cases hlt : k < ts.length
    · obtain ⟨c1, c2⟩ := HR.out k hlt
      have hki : (k : Int) < (ts.length : Int) := by omega
      generalize ht : ts.getD k .nil = t at c1 c2
      cases t with
      | nil =>
        simp only [T.addr] at c1
        clear c2
        go_wp2
        go_round
        case measure => simp only [intOf]; omega
        case rel =>
          refine ⟨k + 1, by omega, by simp, fun j hj => ?_⟩
          rcases Nat.lt_or_ge j k with h | h
          · exact HNO.out j h
          · obtain rfl : j = k := by omega
            rw [ht]; exact .inl rfl
      | node b y l r n =>
        have c0 := cell_of c2.1 0 (.int .u64 y) rfl
        have C2 : Hid (In w (.node b y l r n)) := c2
        clear c2
        simp only [T.addr] at c1
        by_cases hy : y = x
        · subst hy
          go_wp2
          go_ret
          exact ⟨.node b y l r n, rfl, C2.out, Below.refl _ _, .inl ⟨k, hlt, ht.symm, by simp, rfl, HNO.out⟩⟩
        · go_wp2
          go_round
          case measure => simp only [intOf]; omega
          case rel =>
            refine ⟨k + 1, by omega, by simp, fun j hj => ?_⟩
            rcases Nat.lt_or_ge j k with h | h
            · exact HNO.out j h
            · obtain rfl : j = k := by omega
              rw [ht]; exact .inr hy
    · obtain rfl : k = ts.length := by omega
      by_cases hx0 : x = 0
      · subst hx0
        go_wp2_with fail
        go_ret
        exact ⟨.nil, rfl, trivial, Below.refl _ _, .inr ⟨HNO.out, .inl ⟨rfl, rfl⟩⟩⟩
      · have hx1 : (x == 0) = false := by simpa using hx0
        go_wp2_with fail
        refine hc.mono ?_
        rintro e w' ⟨rfl, rfl⟩
        go_wp2
        go_ret
        refine ⟨.node w'.heap.size x .nil .nil (pc x), rfl, ⟨?_, trivial, trivial⟩, (Below.refl _ _).alloc (Nat.le_refl _) _, .inr ⟨HNO.out, .inr ⟨hx0, _, rfl⟩⟩⟩
        exact alloc_at _ _

theorem eql_nil (w : World) (t : T) : (binOp .eql 31 (.pointer t.addr) (.pointer none)).run Yba.prog w = .ok (.bool (decide (t = .nil))) w := by
  have h := run_eql_tree (w := w) (s := .nil) (t := .nil) trivial trivial
  cases t with
  | nil => exact h
  | node b x l r n =>
    have hu : Yba.prog.underlying 31 = some (.pointer 133) := Yba.underlying31
    have key : ∀ d, (Op.equalIn (d + 1) 31 (.pointer (some ⟨b, 0, none⟩)) (.pointer none)).run Yba.prog w = .ok false w := fun d => by
      simp [Op.equalIn, run_underlying hu]
    simp only [T.addr, binOp]
    simp [Op.equal, Op.maxDepth, key 9999]

set_option maxRecDepth 100000 in
set_option maxHeartbeats 2000000 in
theorem joined_any (l r : T) (A : Nat) (ts : List T) (w : World) (hl : In w l) (hr : In w r) (hrow : Row w A ts) (hlen : ts.length ≤ 2) :
    Calls Yba.prog 29 #[.pointer l.addr, .pointer r.addr, .slice (some ⟨A, 0, none⟩) ts.length ts.length] w fun e w' => ∃ v, e = .returned (.pointer v.addr) ∧ In w' v ∧ Below w.heap.size w w' ∧ JoinR l r ts v := by
  have HR : Hid (Row w A ts) := hrow
  have HL : Hid (In w l) := hl
  have HRR : Hid (In w r) := hr
  clear hrow
  have hc1 := len_any l w hl
  have hc2 := len_any r w hr
  have hn1 := eql_nil w l
  have hn2 := eql_nil w r
  clear hl hr
  go_enter Yba.func29, Yba.ntmps29
  go_wp2
  go_loop [8, 11] (fun s6 s9 => ∃ (k : Nat), k ≤ ts.length ∧ s9 = .int .i64 k ∧ (∀ j, j < k → NoH l r (ts.getD j .nil))) (fun _ s9 => ts.length - (intOf s9).toNat)
  case atStart => exact ⟨0, Nat.zero_le _, rfl, fun j hj => by omega⟩
  case round =>
    obtain ⟨k, hk, rfl, hno⟩ := hrel
    have HNO : Hid (∀ j, j < k → NoH l r (ts.getD j .nil)) := hno
    clear hno
    by_cases hlt : k < ts.length
    · obtain ⟨c1, c2⟩ := HR.out k hlt
      have hki : (k : Int) < (ts.length : Int) := by omega
      generalize ht : ts.getD k .nil = t at c1 c2
      have hnext : NoH l r t → ∀ j, j < k + 1 → NoH l r (ts.getD j .nil) := fun hn j hj => by
        rcases Nat.lt_or_ge j k with h | h
        · exact HNO.out j h
        · obtain rfl : j = k := by omega
          rw [ht]; exact hn
      have HN : Hid (NoH l r t → ∀ j, j < k + 1 → NoH l r (ts.getD j .nil)) := hnext
      clear hnext
      cases t with
      | nil =>
        simp only [T.addr] at c1
        clear c2
        go_wp2
        go_round
        case measure => simp only [intOf]; omega
        case rel => exact ⟨k + 1, by omega, by simp, HN.out (.inl rfl)⟩
      | node b y l' r' n =>
        have c1' := cell_of c2.1 1 (.pointer l'.addr) rfl
        have c2' := cell_of c2.1 2 (.pointer r'.addr) rfl
        have e1 : (binOp .eql 31 (.pointer l'.addr) (.pointer l.addr)).run Yba.prog w = _ := run_eql_tree c2.2.1 HL.out
        have e2 : (binOp .eql 31 (.pointer r'.addr) (.pointer r.addr)).run Yba.prog w = _ := run_eql_tree c2.2.2 HRR.out
        have C2 : Hid (In w (.node b y l' r' n)) := c2
        clear c2
        simp only [T.addr] at c1
        by_cases hy : l' = l
        · subst hy
          have hd : decide (l' = l') = true := decide_eq_true rfl
          rw [hd] at e1
          by_cases hy2 : r' = r
          · subst hy2
            have hd2 : decide (r' = r') = true := decide_eq_true rfl
            rw [hd2] at e2
            go_wp2
            go_ret
            exact ⟨.node b y l' r' n, rfl, C2.out, Below.refl _ _, .inl ⟨k, hlt, ht.symm, by simp, rfl, rfl, HNO.out⟩⟩
          · have hd2 : decide (r' = r) = false := decide_eq_false hy2
            rw [hd2] at e2
            go_wp2
            go_round
            case measure => simp only [intOf]; omega
            case rel => exact ⟨k + 1, by omega, by simp, HN.out (.inr (.inr hy2))⟩
        · have hd : decide (l' = l) = false := decide_eq_false hy
          rw [hd] at e1
          go_wp2
          go_round
          case measure => simp only [intOf]; omega
          case rel => exact ⟨k + 1, by omega, by simp, HN.out (.inr (.inl hy))⟩
    · obtain rfl : k = ts.length := by omega
      by_cases hx0 : l = .nil ∧ r = .nil
      · have hd1 : decide (l = .nil) = true := decide_eq_true hx0.1
        have hd2 : decide (r = .nil) = true := decide_eq_true hx0.2
        rw [hd1] at hn1
        rw [hd2] at hn2
        have HX : Hid (l = .nil ∧ r = .nil) := hx0
        clear hx0 hd1 hd2
        go_wp2_with fail
        go_ret
        exact ⟨.nil, rfl, trivial, Below.refl _ _, .inr ⟨HNO.out, .inl ⟨HX.out.1, HX.out.2, rfl⟩⟩⟩
      · have fin : ∀ w' : World, w'.heap.size = w.heap.size → True := fun _ _ => trivial
        have hpart : (decide (l = .nil) = false) ∨ (decide (l = .nil) = true ∧ decide (r = .nil) = false) := by
          by_cases a : l = .nil <;> by_cases b : r = .nil <;> simp_all
        have hx0' : l ≠ .nil ∨ r ≠ .nil := by
          by_cases a : l = .nil
          · exact .inr fun b => hx0 ⟨a, b⟩
          · exact .inl a
        have HX : Hid (l ≠ .nil ∨ r ≠ .nil) := hx0'
        clear hx0 hx0' fin
        rcases hpart with hd1 | ⟨hd1, hd2⟩
        · rw [hd1] at hn1
          clear hd1
          go_wp2_with (first | (go_at_call 12; refine hc1.mono ?_; rintro e w' ⟨rfl, rfl⟩) | (go_at_call 12; refine hc2.mono ?_; rintro e w' ⟨rfl, rfl⟩))
          go_ret
          refine ⟨.node _ 0 l r (wrap64 (l.len + r.len)), rfl, ⟨?_, HL.out.below ((Below.refl _ _).alloc (Nat.le_refl _) _), HRR.out.below ((Below.refl _ _).alloc (Nat.le_refl _) _)⟩, (Below.refl _ _).alloc (Nat.le_refl _) _, .inr ⟨HNO.out, .inr ⟨HX.out, _, rfl⟩⟩⟩
          exact alloc_at _ _
        · rw [hd1] at hn1
          rw [hd2] at hn2
          clear hd1 hd2
          go_wp2_with (first | (go_at_call 12; refine hc1.mono ?_; rintro e w' ⟨rfl, rfl⟩) | (go_at_call 12; refine hc2.mono ?_; rintro e w' ⟨rfl, rfl⟩))
          go_ret
          refine ⟨.node _ 0 l r (wrap64 (l.len + r.len)), rfl, ⟨?_, HL.out.below ((Below.refl _ _).alloc (Nat.le_refl _) _), HRR.out.below ((Below.refl _ _).alloc (Nat.le_refl _) _)⟩, (Below.refl _ _).alloc (Nat.le_refl _) _, .inr ⟨HNO.out, .inr ⟨HX.out, _, rfl⟩⟩⟩
          exact alloc_at _ _
end Go.Proofs.Ybulkakko
