/-
  The leaves of this road: bytes.Clone, bytes.Equal, errors.New, zzs1803bsame.
-/
import Derived.Test.YbulkakhwRows
import Derived.WalkKit
import Derived.WalkSpells
import Derived.WalkLawsBesides
import Derived.Lib.SliceRun
import Derived.Deep.LoopGhost
import Derived.Lib.Walk
import Derived.Shelf.Bytes.SlEqualAll
namespace Go.Proofs.Ybulkakhw
open Go.RowKit

theorem Yba.info5 : (Yba.prog.info? 5).map (fun i => (i.zero, i.size, i.bytes)) = some (some (.int .u8 0), 1, 1) := by kernel_rfl
theorem Yba.info32 : (Yba.prog.info? 32).map (fun i => (i.zero, i.size, i.bytes)) = some (some (.agg #[.string ⟨#[]⟩, .int .u32 0, .slice none 0 0]), 3, 48) := by kernel_rfl

set_option maxHeartbeats 400000 in
theorem clone_nil (w : World) (n c : Nat) :
    Calls Yba.prog 5 #[.slice none n c] w fun e w' => e = .returned (.slice none 0 0) ∧ w' = w := by
  have q22 : ∀ (w : World) (a : Option Addr) (n c n' c' : Nat), (binOp .eql 22 (.slice a n c) (.slice none n' c')).run Yba.prog w = .ok (.bool a.isNone) w := fun w a n c n' c' => Lib.run_eql_slice_nil w _ _ a n c n' c' Yba.underlying22
  go_enter Yba.func5, Yba.ntmps5
  go_wp2
  go_ret
  exact ⟨rfl, rfl⟩

set_option maxHeartbeats 400000 in
set_option maxRecDepth 100000 in
theorem clone_some (ad : Addr) (n c : Nat) (news : List Value) (w : World) (hl : news.length = n) (hn : n ≤ 140737488355328)
    (hc : ∀ j u, news[j]? = some u → w.cell? (ad.add j) = some u) (h1 : ∀ u ∈ news, u.oneCell' = true) :
    Calls Yba.prog 5 #[.slice (some ad) n c] w fun e w' => ∃ v', e = .returned v' ∧ w'.ownsRow w.heap.size 5 1 v' n news ∧ v' ≠ .slice none 0 0 ∧ Below w.heap.size w w' := by
  obtain ⟨i0, hi, hz0, hz1, hz2⟩ := info_parts Yba.info5
  have A : Hid (∀ j u, news[j]? = some u → w.cell? (ad.add j) = some u) := hc
  clear hc
  have q22 : ∀ (w : World) (a : Option Addr) (n c n' c' : Nat), (binOp .eql 22 (.slice a n c) (.slice none n' c')).run Yba.prog w = .ok (.bool a.isNone) w := fun w a n c n' c' => Lib.run_eql_slice_nil w _ _ a n c n' c' Yba.underlying22
  go_enter Yba.func5, Yba.ntmps5
  go_wp2_with (at_builtin; refine wpList_append_own _ rfl _ _ 22 rfl w.heap.size 5 i0 (.int .u8 0) 1 1 Yba.underlying22 hi hz0 hz1 hz2 rfl (by decide) _ _ _ rfl (World.ownsRow_made w #[] 0 (Nat.le_refl _) (Nat.zero_le _) (by simp)) ad n c news rfl ?qc1 ?qc2 ?qc3 ?qc4 ?qc5 ?qc6 ?_)
  case qc1 => omega
  case qc2 =>
    intro j u hj
    exact Lib.cell?_alloc_some _ (A.out j u hj)
  case qc3 => exact h1
  case qc4 => unfold maxLen; omega
  case qc5 => omega
  case qc6 => simp
  intro v' w1 hown hgrow hnil
  go_wp2
  go_ret
  refine ⟨v', rfl, by simpa using hown, ?_, ?_⟩
  · exact hnil
  · exact ((Below.refl _ w).alloc (Nat.le_refl _) _).grown hgrow (by simp) (by intro k hk; simp [Value.ownBlock] at hk; omega)

set_option maxHeartbeats 400000 in
theorem equal_any (p1 p2 : Option Addr) (n c m d : Nat) (xs ys : List Int) (w : World) (hx : xs.length = n) (hy : ys.length = m) (h1 : Lib.BytesIn w p1 n xs) (h2 : Lib.BytesIn w p2 m ys) :
    Calls Yba.prog 8 #[.slice p1 n c, .slice p2 m d] w fun e w' => e = .returned (.bool (Lib.bytesOf xs == Lib.bytesOf ys)) ∧ w' = w := by
  have e1 := h1.convert (P := Yba.prog) hx c 22 5 9 Yba.underlying22 Yba.underlying5 Yba.underlying9
  have e2 := h2.convert (P := Yba.prog) hy d 22 5 9 Yba.underlying22 Yba.underlying5 Yba.underlying9
  go_enter Yba.func8, Yba.ntmps8
  go_wp2
  go_ret
  rw [Lib.strOfNums_toList, Lib.strOfNums_toList]
  exact ⟨rfl, rfl⟩

set_option maxHeartbeats 400000 in
theorem new_any (s : ByteArray) (w : World) :
    Calls Yba.prog 10 #[.string s] w fun e w' => e = .returned (.iface 46 (.pointer (some ⟨w.heap.size, 0, none⟩))) ∧ w' = w.alloc (.cells #[.string s] 48) := by
  go_enter Yba.func10, Yba.ntmps10
  go_wp2
  go_ret
  exact ⟨rfl, rfl⟩

/-- A signature line as it lies in memory: the name, the key's number, the slice of its bytes, and what those bytes are. -/
structure Sg where
  name : ByteArray
  key : Int
  p : Option Addr
  len : Nat
  cap : Nat
  bs : List Int

def Sg.cells (s : Sg) : List Value := [.string s.name, .int .u32 s.key, .slice s.p s.len s.cap]
def Sg.val (s : Sg) : Value := .agg #[.string s.name, .int .u32 s.key, .slice s.p s.len s.cap]
def Sg.obj (s : Sg) : Obj := .cells #[.string s.name, .int .u32 s.key, .slice s.p s.len s.cap] 32
/-- What the program can tell of it. -/
def Sg.data (s : Sg) : ByteArray × Int × List Int := (s.name, s.key, s.bs)
/-- Its bytes lie in w, in a block of bytes. -/
def Sg.ok (w : World) (s : Sg) : Prop := s.bs.length = s.len ∧ (0 < s.len → ∃ b o cur, s.p = some ⟨b, o, none⟩ ∧ w.heap[b]? = some (.cells cur 5 (0, 0)) ∧ ∀ i, i < s.len → cur[o + i]? = some (.int .u8 (s.bs.getD i 0)))

theorem cell_of_block {w : World} {b i : Nat} {cs : Array Value} {t : TypeId} {fr : Nat × Nat} {v : Value} (h : w.heap[b]? = some (.cells cs t fr)) (hi : cs[i]? = some v) : w.cell? ⟨b, i, none⟩ = some v := by
  simp [World.cell?, h, hi]
theorem free_of_block {w : World} {b i : Nat} {cs : Array Value} {t : TypeId} (h : w.heap[b]? = some (.cells cs t (0, 0))) : w.frozen? ⟨b, i, none⟩ = false := by
  simp [World.frozen?, h]
theorem block_setCell {w : World} {b i : Nat} {cs : Array Value} {t : TypeId} {fr : Nat × Nat} (h : w.heap[b]? = some (.cells cs t fr)) (u : Value) : (w.setCell ⟨b, i, none⟩ u).heap[b]? = some (.cells (cs.setIfInBounds i u) t fr) := by
  simp [World.setCell, Array.getElem?_modify, h]
theorem heap_lt {w : World} {b : Nat} {o : Obj} (h : w.heap[b]? = some o) : b < w.heap.size := (Array.getElem?_eq_some_iff.1 h).1

theorem Sg.ok.bytes {w : World} {s : Sg} (h : s.ok w) : Lib.BytesIn w s.p s.len s.bs := by
  intro hn
  obtain ⟨b, o, cur, hp, hb, hc⟩ := h.2 hn
  exact ⟨b, o, hp, fun i hi => cell_of_block hb (hc i hi)⟩
/-- It lies as it did where every block of bytes is as it was. -/
theorem Sg.ok.kept {w w' : World} {s : Sg} (h : s.ok w) (hk : ∀ (b : Nat) (cur : Array Value), w.heap[b]? = some (.cells cur 5 (0, 0)) → w'.heap[b]? = some (.cells cur 5 (0, 0))) : s.ok w' := by
  refine ⟨h.1, fun hn => ?_⟩
  obtain ⟨b, o, cur, hp, hb, hc⟩ := h.2 hn
  exact ⟨b, o, cur, hp, hk b cur hb, hc⟩
theorem Sg.ok.below {w w' : World} {s : Sg} {B : Nat} (h : s.ok w) (hb : Below B w w') (hB : w.heap.size ≤ B) : s.ok w' :=
  h.kept fun b cur hh => by rw [hb.block b (Nat.lt_of_lt_of_le (heap_lt hh) hB)]; exact hh

set_option maxHeartbeats 400000 in
/-- zzs1803bsame over two lines that tell the same: true; two blocks are laid. -/
theorem same_true (s t : Sg) (w : World) (hd : s.data = t.data) (hs : s.ok w) (ht : t.ok w) :
    Calls Yba.prog 11 #[s.val, t.val] w fun e w' => e = .returned (.bool true) ∧ w' = (w.alloc s.obj).alloc t.obj := by
  obtain ⟨n, k, p, l, c, bs⟩ := s
  obtain ⟨n', k', p', l', c', bs'⟩ := t
  simp only [Sg.data, Prod.mk.injEq] at hd
  obtain ⟨rfl, rfl, rfl⟩ := hd
  simp only [Sg.val, Sg.obj]
  have hq : Calls Yba.prog 8 #[.slice p l c, .slice p' l' c'] ((w.alloc (.cells #[.string n, .int .u32 k, .slice p l c] 32)).alloc (.cells #[.string n, .int .u32 k, .slice p' l' c'] 32)) fun e w' => e = .returned (.bool true) ∧ w' = (w.alloc (.cells #[.string n, .int .u32 k, .slice p l c] 32)).alloc (.cells #[.string n, .int .u32 k, .slice p' l' c'] 32) := by
    have hb : Below w.heap.size w ((w.alloc (.cells #[.string n, .int .u32 k, .slice p l c] 32)).alloc (.cells #[.string n, .int .u32 k, .slice p' l' c'] 32)) := ((Below.refl _ _).alloc (Nat.le_refl _) _).alloc (by simp) _
    have h := equal_any p p' l c l' c' bs bs _ hs.1 ht.1 (hs.below hb (Nat.le_refl _)).bytes (ht.below hb (Nat.le_refl _)).bytes
    simpa using h
  have hkk : (k == k) = true := by simp
  have hnn : (n.toList == n.toList) = true := by simp
  clear hs ht
  go_enter Yba.func11, Yba.ntmps11
  go_wp2_with (go_at_call 8; refine hq.mono ?_; rintro e w' ⟨rfl, rfl⟩)
  go_ret
  exact ⟨rfl, rfl⟩
end Go.Proofs.Ybulkakhw
