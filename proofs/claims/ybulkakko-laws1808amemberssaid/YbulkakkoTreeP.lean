/- The plain laws on the trees: no Go in sight. -/
import Derived.Test.YbulkakkoTreeC
namespace Go.Proofs.Ybulkakko
open Go.RowKit
set_option linter.unusedVariables false
set_option linter.unusedSimpArgs false

/-- A tree of height h. -/
def WF : Nat → T → Prop
  | _, .nil => True
  | 0, .node _ x l r n => l = .nil ∧ r = .nil ∧ x ≠ 0 ∧ 0 ≤ x ∧ x < 18446744073709551616 ∧ n = pc x
  | h + 1, .node _ x l r n => WF h l ∧ WF h r ∧ (l ≠ .nil ∨ r ≠ .nil) ∧ n = wrap64 (l.len + r.len)

theorem WF.nil (h : Nat) : WF h .nil := by cases h <;> trivial
theorem WF.left {h : Nat} {t : T} (w : WF (h + 1) t) : WF h t.left := by
  cases t with
  | nil => exact WF.nil h
  | node => exact w.1
theorem WF.right {h : Nat} {t : T} (w : WF (h + 1) t) : WF h t.right := by
  cases t with
  | nil => exact WF.nil h
  | node => exact w.2.1
theorem WF.word {t : T} (w : WF 0 t) : 0 ≤ t.word ∧ t.word < 18446744073709551616 := by
  cases t with
  | nil => simp [T.word]
  | node => exact ⟨w.2.2.2.1, w.2.2.2.2.1⟩

theorem WF.height : ∀ {h h' : Nat} {t : T}, WF h t → WF h' t → t ≠ .nil → h = h'
  | _, _, .nil, _, _, hn => absurd rfl hn
  | 0, 0, .node .., _, _, _ => rfl
  | 0, h' + 1, .node b x l r n, w, w', _ => by
    rcases w'.2.2.1 with e | e
    · exact absurd w.1 e
    · exact absurd w.2.1 e
  | h + 1, 0, .node b x l r n, w, w', _ => by
    rcases w.2.2.1 with e | e
    · exact absurd w'.1 e
    · exact absurd w'.2.1 e
  | h + 1, h' + 1, .node b x l r n, w, w', _ => by
    rcases w.2.2.1 with e | e
    · rw [WF.height w.1 w'.1 e]
    · rw [WF.height w.2.1 w'.2.1 e]

theorem u64_range (n : Int) : 0 ≤ IntKind.u64.wrap n ∧ IntKind.u64.wrap n < 18446744073709551616 := by rw [IntKind.wrap_u64]; omega
theorem or_range (a b : Int) : 0 ≤ bits .or .u64 a b ∧ bits .or .u64 a b < 18446744073709551616 := u64_range _

theorem LeafR.wf {x : Int} {ts : List T} {v : T} (hx : 0 ≤ x ∧ x < 18446744073709551616) (hts : ∀ t ∈ ts, WF 0 t) (h : LeafR x ts v) : WF 0 v := by
  rcases h with ⟨k, hk, rfl, -, -, -⟩ | ⟨-, ⟨-, rfl⟩ | ⟨h0, b, rfl⟩⟩
  · exact hts _ (by simp [List.getD, hk])
  · trivial
  · exact ⟨rfl, rfl, h0, hx.1, hx.2, rfl⟩
theorem JoinR.wf {h : Nat} {l r : T} {ts : List T} {v : T} (hl : WF h l) (hr : WF h r) (hts : ∀ t ∈ ts, WF (h + 1) t) (hj : JoinR l r ts v) : WF (h + 1) v := by
  rcases hj with ⟨k, hk, rfl, -⟩ | ⟨-, ⟨-, -, rfl⟩ | ⟨h0, b, rfl⟩⟩
  · exact hts _ (by simp [List.getD, hk])
  · trivial
  · exact ⟨hl, hr, h0, rfl⟩

theorem zfold_range (lo : Nat) : ∀ (zs : List Int) (x : Int), 0 ≤ x ∧ x < 18446744073709551616 → 0 ≤ zfold lo x zs ∧ zfold lo x zs < 18446744073709551616
  | [], x, h => h
  | z :: zs, x, h => zfold_range lo zs _ (or_range _ _)

theorem AddR.wf {h lo : Nat} {zs : List Int} {t v : T} (hw : WF h t) (ha : AddR h lo zs t v) : WF h v := by
  induction ha with
  | none => exact hw
  | leaf lo zs t v hne hl => exact hl.wf (zfold_range _ _ _ hw.word) (by simpa using hw)
  | node h lo zs t l r v i hne hi h1 h2 hj ih1 ih2 => exact hj.wf (ih1 hw.left) (ih2 hw.right) (by simpa using hw)

/-- 'unionAt(a, b, h)'. -/
inductive Uni : Nat → T → T → T → Prop
  | nilL (h : Nat) (t : T) : Uni h .nil t t
  | same (h : Nat) (t : T) : Uni h t t t
  | nilR (h : Nat) (s : T) : Uni h s .nil s
  | leaf (s t v : T) : s ≠ .nil → t ≠ .nil → s ≠ t → LeafR (bits .or .u64 s.word t.word) [s, t] v → Uni 0 s t v
  | join (h : Nat) (s t l r v : T) : s ≠ .nil → t ≠ .nil → s ≠ t → Uni h s.left t.left l → Uni h s.right t.right r → JoinR l r [s, t] v → Uni (h + 1) s t v

theorem Uni.wf {h : Nat} {s t v : T} (hs : WF h s) (ht : WF h t) (hu : Uni h s t v) : WF h v := by
  induction hu with
  | nilL => exact ht
  | same => exact ht
  | nilR => exact hs
  | leaf s t v _ _ _ hl => exact hl.wf (or_range _ _) (by simp; exact ⟨hs, ht⟩)
  | join h s t l r v _ _ _ h1 h2 hj ih1 ih2 => exact hj.wf (ih1 hs.left ht.left) (ih2 hs.right ht.right) (by simp; exact ⟨hs, ht⟩)

/-! ### Where one set holds the other -/
theorem LeafR.one {x : Int} {t v : T} (h : LeafR x [t] v) : (t ≠ .nil ∧ t.word = x ∧ v = t) ∨ (NoW x t ∧ ((x = 0 ∧ v = .nil) ∨ (x ≠ 0 ∧ ∃ b, v = .node b x .nil .nil (pc x)))) := by
  rcases h with ⟨k, hk, rfl, h1, h2, -⟩ | ⟨h1, h2⟩
  · obtain rfl : k = 0 := by simp at hk; exact hk
    exact .inl ⟨h1, h2, rfl⟩
  · exact .inr ⟨h1 0 (by simp), h2⟩
theorem JoinR.one {l r t v : T} (h : JoinR l r [t] v) : (t ≠ .nil ∧ t.left = l ∧ t.right = r ∧ v = t) ∨ (NoH l r t ∧ ((l = .nil ∧ r = .nil ∧ v = .nil) ∨ ((l ≠ .nil ∨ r ≠ .nil) ∧ ∃ b, v = .node b 0 l r (wrap64 (l.len + r.len))))) := by
  rcases h with ⟨k, hk, rfl, h1, h2, h3, -⟩ | ⟨h1, h2⟩
  · obtain rfl : k = 0 := by simp at hk; exact hk
    exact .inl ⟨h1, h2, h3, rfl⟩
  · exact .inr ⟨h1 0 (by simp), h2⟩

theorem LeafR.first {x : Int} {s t v : T} (h : LeafR x [s, t] v) (hs : s ≠ .nil) (hx : s.word = x) : v = s := by
  rcases h with ⟨k, hk, rfl, h1, h2, h3⟩ | ⟨h1, h2⟩
  · match k, hk with
    | 0, _ => rfl
    | k + 1, _ =>
      rcases h3 0 (by omega) with e | e
      · exact absurd e hs
      · exact absurd hx e
  · rcases h1 0 (by simp) with e | e
    · exact absurd e hs
    · exact absurd hx e
theorem LeafR.second {x : Int} {s t v : T} (h : LeafR x [s, t] v) (hn : s.word ≠ x) (ht : t ≠ .nil) (hx : t.word = x) : v = t := by
  rcases h with ⟨k, hk, rfl, h1, h2, h3⟩ | ⟨h1, h2⟩
  · match k, hk with
    | 0, _ => exact absurd h2 hn
    | 1, _ => rfl
    | k + 2, hk => exact absurd hk (by simp)
  · rcases h1 1 (by simp) with e | e
    · exact absurd e ht
    · exact absurd hx e
theorem JoinR.first {l r s t v : T} (h : JoinR l r [s, t] v) (hs : s ≠ .nil) (hl : s.left = l) (hr : s.right = r) : v = s := by
  rcases h with ⟨k, hk, rfl, h1, h2, h4, h3⟩ | ⟨h1, h2⟩
  · match k, hk with
    | 0, _ => rfl
    | k + 1, _ =>
      rcases h3 0 (by omega) with e | e | e
      · exact absurd e hs
      · exact absurd hl e
      · exact absurd hr e
  · rcases h1 0 (by simp) with e | e | e
    · exact absurd e hs
    · exact absurd hl e
    · exact absurd hr e
theorem JoinR.second {l r s t v : T} (h : JoinR l r [s, t] v) (hn : ¬ (s.left = l ∧ s.right = r)) (ht : t ≠ .nil) (hl : t.left = l) (hr : t.right = r) : v = t := by
  rcases h with ⟨k, hk, rfl, h1, h2, h4, h3⟩ | ⟨h1, h2⟩
  · match k, hk with
    | 0, _ => exact absurd ⟨h2, h4⟩ hn
    | 1, _ => rfl
    | k + 2, hk => exact absurd hk (by simp)
  · rcases h1 1 (by simp) with e | e | e
    · exact absurd e ht
    · exact absurd hl e
    · exact absurd hr e

/-! the word -/
theorem or_nat {a b : Int} (ha : 0 ≤ a ∧ a < 18446744073709551616) (hb : 0 ≤ b ∧ b < 18446744073709551616) : bits .or .u64 a b = ((a.toNat ||| b.toNat : Nat) : Int) := by
  have h := (bits_nat .u64 64 (by decide) (fun n h0 h1 => by rw [IntKind.wrap_u64]; omega) a.toNat b.toNat (by omega) (by omega)).2
  rw [Int.toNat_of_nonneg ha.1, Int.toNat_of_nonneg hb.1] at h
  exact h
theorem two_range (d : Nat) (hd : d < 64) : (0 : Int) ≤ 2 ^ d ∧ (2 : Int) ^ d < 18446744073709551616 := by
  have h1 : (2 : Nat) ^ d ≤ 2 ^ 63 := Nat.pow_le_pow_right (by decide) (by omega)
  have h2 : ((2 : Int) ^ d) = ((2 ^ d : Nat) : Int) := by push_cast; rfl
  rw [h2]
  generalize (2 : Nat) ^ d = p at *
  omega
theorem or_idem {a b : Int} (ha : 0 ≤ a ∧ a < 18446744073709551616) (hb : 0 ≤ b ∧ b < 18446744073709551616) : bits .or .u64 a (bits .or .u64 a b) = bits .or .u64 a b := by
  rw [or_nat ha (or_range _ _), or_nat ha hb, Int.toNat_natCast, ← Nat.or_assoc, Nat.or_self]
theorem or_comm' {a b : Int} (ha : 0 ≤ a ∧ a < 18446744073709551616) (hb : 0 ≤ b ∧ b < 18446744073709551616) : bits .or .u64 a b = bits .or .u64 b a := by
  rw [or_nat ha hb, or_nat hb ha, Nat.or_comm]

theorem or_assoc' {a b c : Int} (ha : 0 ≤ a ∧ a < 18446744073709551616) (hb : 0 ≤ b ∧ b < 18446744073709551616) (hc : 0 ≤ c ∧ c < 18446744073709551616) : bits .or .u64 a (bits .or .u64 b c) = bits .or .u64 (bits .or .u64 a b) c := by
  rw [or_nat ha (or_range _ _), or_nat (or_range _ _) hc, or_nat hb hc, or_nat ha hb, Int.toNat_natCast, Int.toNat_natCast, Nat.or_assoc]
theorem or_zero {a b : Int} (ha : 0 ≤ a ∧ a < 18446744073709551616) (hb : 0 ≤ b ∧ b < 18446744073709551616) (h : bits .or .u64 a b = 0) : a = 0 := by
  rw [or_nat ha hb] at h
  have h1 : a.toNat ||| b.toNat = 0 := by exact_mod_cast h
  have h2 : a.toNat = 0 := (Nat.or_eq_zero_iff.1 h1).1
  omega

/-- The word only grows. -/
theorem zfold_or (lo : Nat) : ∀ (zs : List Int) (x : Int), 0 ≤ x ∧ x < 18446744073709551616 → (∀ k ∈ zs, (lo : Int) ≤ k ∧ k < lo + 64) → bits .or .u64 x (zfold lo x zs) = zfold lo x zs
  | [], x, h, _ => by
    simp only [zfold]
    rw [or_nat h h, Nat.or_self, Int.toNat_of_nonneg h.1]
  | z :: zs, x, h, hk => by
    have hz := hk z (by simp)
    have ih := zfold_or lo zs (bits .or .u64 x (2 ^ (z - lo).toNat)) (or_range _ _) (fun k hk' => hk k (by simp [hk']))
    have hr := zfold_range lo zs (bits .or .u64 x (2 ^ (z - lo).toNat)) (or_range _ _)
    have h2 := two_range (z - lo).toNat (by omega)
    simp only [zfold]
    generalize zfold lo (bits .or .u64 x (2 ^ (z - lo).toNat)) zs = y at *
    calc bits .or .u64 x y = bits .or .u64 x (bits .or .u64 (bits .or .u64 x (2 ^ (z - lo).toNat)) y) := by rw [ih]
      _ = bits .or .u64 (bits .or .u64 x (bits .or .u64 x (2 ^ (z - lo).toNat))) y := or_assoc' h (or_range _ _) hr
      _ = y := by rw [or_idem h h2, ih]

/-- The indices lie in the tree's stretch. -/
def Rng (h lo : Nat) (zs : List Int) : Prop := zs.Pairwise (· ≤ ·) ∧ ∀ k ∈ zs, (lo : Int) ≤ k ∧ k < ((lo + 64 * 2 ^ h : Nat) : Int)
theorem Rng.take {h lo i : Nat} {zs : List Int} (hr : Rng (h + 1) lo zs) (hi : i = zs.countP (· < ((lo + 64 * 2 ^ h : Nat) : Int))) : Rng h lo (zs.take i) :=
  ⟨hr.1.take, fun k hk => ⟨(hr.2 k (List.mem_of_mem_take hk)).1, by rw [hi] at hk; exact count_take hr.1 k hk⟩⟩
theorem Rng.drop {h lo i : Nat} {zs : List Int} (hr : Rng (h + 1) lo zs) (hi : i = zs.countP (· < ((lo + 64 * 2 ^ h : Nat) : Int))) : Rng h (lo + 64 * 2 ^ h) (zs.drop i) :=
  ⟨hr.1.drop, fun k hk => ⟨by rw [hi] at hk; exact count_drop hr.1 k hk, by
    have := (hr.2 k (List.mem_of_mem_drop hk)).2
    rw [Nat.pow_succ] at this
    rw [Nat.add_assoc, ← Nat.mul_add, ← Nat.mul_two]
    exact this⟩⟩
theorem Rng.leaf {lo : Nat} {zs : List Int} (hr : Rng 0 lo zs) : ∀ k ∈ zs, (lo : Int) ≤ k ∧ k < lo + 64 := fun k hk => by
  have := hr.2 k hk
  simp at this
  exact this

theorem AddR.to_nil {h lo : Nat} {zs : List Int} {s t : T} (ha : AddR h lo zs s t) (hw : WF h s) (hr : Rng h lo zs) (ht : t = .nil) : s = .nil := by
  induction ha with
  | none => exact ht
  | leaf lo zs t v hne hl =>
    subst ht
    rcases hl.one with ⟨h1, h2, h3⟩ | ⟨h1, ⟨h2, -⟩ | ⟨-, b, h3⟩⟩
    · exact h3.symm
    · have e := zfold_or lo zs t.word hw.word hr.leaf
      rw [h2] at e h1
      have := or_zero hw.word (by simp) e
      rcases h1 with h1 | h1
      · exact h1
      · exact absurd this h1
    · cases h3
  | node h lo zs t l r v i hne hi h1 h2 hj ih1 ih2 =>
    subst ht
    rcases hj.one with ⟨-, -, -, h5⟩ | ⟨h3, ⟨h4, h5, -⟩ | ⟨-, b, h5⟩⟩
    · exact h5.symm
    · have e1 := ih1 hw.left (hr.take hi) h4
      have e2 := ih2 hw.right (hr.drop hi) h5
      rcases h3 with h3 | h3 | h3
      · exact h3
      · exact absurd (e1.trans h4.symm) h3
      · exact absurd (e2.trans h5.symm) h3
    · cases h5

theorem Uni.self {h : Nat} {t v : T} (hu : Uni h t t v) : v = t := by
  cases hu with
  | nilL => rfl
  | same => rfl
  | nilR => rfl
  | leaf _ _ _ _ _ h => exact absurd rfl h
  | join _ _ _ _ _ _ _ _ h => exact absurd rfl h

/-- WHERE ONE SET HOLDS THE OTHER, THE UNION IS THAT VERY TREE. -/
theorem AddR.keep {h lo : Nat} {zs : List Int} {s t : T} (ha : AddR h lo zs s t) (hw : WF h s) (hr : Rng h lo zs) : (∀ v, Uni h s t v → v = t) ∧ (∀ v, Uni h t s v → v = t) := by
  induction ha with
  | none h lo t => exact ⟨fun v hu => hu.self, fun v hu => hu.self⟩
  | leaf lo zs s t hne hl =>
    have hnil := (AddR.leaf lo zs s t hne hl).to_nil hw hr
    have hor := zfold_or lo zs s.word hw.word hr.leaf
    have hzr := zfold_range lo zs s.word hw.word
    have key : s ≠ t → s ≠ .nil → t ≠ .nil → s.word ≠ zfold lo s.word zs ∧ t.word = zfold lo s.word zs := by
      intro h1 h2 h3
      rcases hl.one with ⟨-, -, e⟩ | ⟨e, ⟨-, e2⟩ | ⟨-, b, e2⟩⟩
      · exact absurd e.symm h1
      · exact absurd e2 h3
      · rcases e with e | e
        · exact absurd e h2
        · exact ⟨e, by rw [e2]; rfl⟩
    constructor
    · intro v hu
      cases hu with
      | nilL => rfl
      | same => rfl
      | nilR => exact hnil rfl
      | leaf _ _ _ h1 h2 h3 h4 =>
        obtain ⟨k1, k2⟩ := key h3 h1 h2
        rw [k2, hor] at h4
        exact h4.second k1 h2 k2
    · intro v hu
      cases hu with
      | nilL => exact hnil rfl
      | same => rfl
      | nilR => rfl
      | leaf _ _ _ h1 h2 h3 h4 =>
        obtain ⟨k1, k2⟩ := key (Ne.symm h3) h2 h1
        rw [k2, or_comm' hzr hw.word, hor] at h4
        exact h4.first h1 k2
  | node h lo zs s l r t i hne hi a1 a2 hj ih1 ih2 =>
    have hnil := (AddR.node h lo zs s l r t i hne hi a1 a2 hj).to_nil hw hr
    have k1 := ih1 hw.left (hr.take hi)
    have k2 := ih2 hw.right (hr.drop hi)
    have key : s ≠ t → s ≠ .nil → t ≠ .nil → ¬ (s.left = l ∧ s.right = r) ∧ t.left = l ∧ t.right = r := by
      intro h1 h2 h3
      rcases hj.one with ⟨-, -, -, e⟩ | ⟨e, ⟨-, -, e2⟩ | ⟨-, b, e2⟩⟩
      · exact absurd e.symm h1
      · exact absurd e2 h3
      · refine ⟨fun c => ?_, by rw [e2]; exact ⟨rfl, rfl⟩⟩
        rcases e with e | e | e
        · exact absurd e h2
        · exact absurd c.1 e
        · exact absurd c.2 e
    constructor
    · intro v hu
      cases hu with
      | nilL => rfl
      | same => rfl
      | nilR => exact hnil rfl
      | join _ _ _ l' r' _ h1 h2 h3 h4 h5 h6 =>
        obtain ⟨e1, e2, e3⟩ := key h3 h1 h2
        rw [e2] at h4
        rw [e3] at h5
        rw [k1.1 _ h4, k2.1 _ h5] at h6
        exact h6.second e1 h2 e2 e3
    · intro v hu
      cases hu with
      | nilL => exact hnil rfl
      | same => rfl
      | nilR => rfl
      | join _ _ _ l' r' _ h1 h2 h3 h4 h5 h6 =>
        obtain ⟨e1, e2, e3⟩ := key (Ne.symm h3) h2 h1
        rw [e2] at h4
        rw [e3] at h5
        rw [k1.2 _ h4, k2.2 _ h5] at h6
        exact h6.first h1 e2 e3
end Go.Proofs.Ybulkakko
