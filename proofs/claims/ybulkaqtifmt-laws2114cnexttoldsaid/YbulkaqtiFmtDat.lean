/-
  THE LAW's DATA AS RECORDS, the queue's row, and the world in which sendEnded is called.
-/
import Derived.Test.YbulkaqtiFmtSame
import Derived.Test.YbulkaqtiFmtOpen
namespace Go.Proofs.YbulkaqtiFmt
open Go.RowKit
set_option linter.unusedVariables false

/-- one plain block of the law -/
structure Dat where
  h : Bool
  wb : Bool
  l : Bool
  dev : Int
  st : Int
  fn : Int
  num : Int
  sys : Int
  ad : Option Addr
  len : Nat
  cap : Nat
  bs : Nat → Int
instance : Inhabited Dat := ⟨⟨false, false, false, 0, 0, 0, 0, 0, none, 0, 0, fun _ => 0⟩⟩
/-- the length of its body in the block -/
def Dat.nb (d : Dat) : Nat := min d.len 244
theorem Dat.nb_le (d : Dat) : d.nb ≤ 244 := Nat.min_le_right _ _
def DatAt (w : World) (b o : Nat) (d : Dat) : Prop := BlkAt w b o d.h d.wb d.l d.dev d.st d.fn d.num d.sys d.ad d.len d.cap d.bs
def Dat.D (d : Dat) : Int := bits .and .u16 d.dev 32767
def Dat.S (d : Dat) : Int := bits .and .u8 d.st 127
def Dat.N (d : Dat) : Int := bits .and .u16 d.num 32767
/-- its nine cells in a block whose body lies in g -/
def Dat.cells (d : Dat) (g : Nat) : List Value :=
  [.bool d.h, .int .u16 d.D, .bool d.wb, .int .u8 d.S, .int .u8 d.fn, .bool d.l, .int .u16 d.N, .int .u32 d.sys, .slice (some ⟨g, 0, none⟩) d.nb d.nb]

/-- element p of the row xs is d's block -/
def Elem (w : World) (xs : List Value) (p : Nat) (d : Dat) : Prop :=
  ∃ g, (∀ i, i < 9 → xs[p * 9 + i]? = (d.cells g)[i]?) ∧ w.heap[g]? = some (.cells (byts d.bs d.nb).toArray 5 (0, 0))
theorem Elem.grow {w w' : World} {xs ys : List Value} {p : Nat} {d : Dat} (h : Elem w xs p d) (hl : p * 9 + 9 ≤ xs.length) (hk : ∀ g, g < w.heap.size → (∀ c fr, w.heap[g]? ≠ some (.cells c 51 fr)) → w'.heap[g]? = w.heap[g]?) : Elem w' (xs ++ ys) p d := by
  obtain ⟨g, h1, h2⟩ := h
  refine ⟨g, fun i hi => ?_, ?_⟩
  · rw [List.getElem?_append_left (by omega)]; exact h1 i hi
  · rw [hk g (lt_of_heap h2) (by rw [h2]; intro c fr e; simp at e)]; exact h2
theorem Elem.new {w : World} {xs : List Value} {p g : Nat} {d : Dat} (hl : xs.length = p * 9) (hg : w.heap[g]? = some (.cells (byts d.bs d.nb).toArray 5 (0, 0))) : Elem w (xs ++ d.cells g) p d :=
  ⟨g, fun i hi => by rw [List.getElem?_append_right (by omega), show p * 9 + i - xs.length = i by omega], hg⟩
theorem Elem.kept {w w' : World} {xs : List Value} {p : Nat} {d : Dat} (h : Elem w xs p d) (hb : Below w.heap.size w w') : Elem w' xs p d := by
  obtain ⟨g, h1, h2⟩ := h
  exact ⟨g, h1, (hb.block g (lt_of_heap h2)).trans h2⟩
theorem Elem.nine {w : World} {B n cap Q : Nat} {xs : List Value} {p : Nat} {d : Dat} (h : Elem w xs p d) (hown : w.ownsRow B 51 9 (.slice (some ⟨Q, 0, none⟩) n cap) n xs) (hp : p < n) :
    ∃ g, NineAt w Q (p * 9) d.h d.wb d.l d.D d.S d.fn d.N d.sys (.slice (some ⟨g, 0, none⟩) d.nb d.nb) ∧ w.heap[g]? = some (.cells (byts d.bs d.nb).toArray 5 (0, 0)) := by
  obtain ⟨g, h1, h2⟩ := h
  have hc : ∀ i, i < 9 → w.cell? ⟨Q, p * 9 + i, none⟩ = (d.cells g)[i]? := fun i hi => by rw [hown.cellAt _ (by omega)]; exact h1 i hi
  exact ⟨g, ⟨hc 0 (by decide), hc 1 (by decide), hc 2 (by decide), hc 3 (by decide), hc 4 (by decide), hc 5 (by decide), hc 6 (by decide), hc 7 (by decide), hc 8 (by decide)⟩, h2⟩
theorem NineAt.later {w w' : World} {b o : Nat} {h wb l : Bool} {D S Fn Nm Sy : Int} {sl : Value} (k : NineAt w b o h wb l D S Fn Nm Sy sl) (hb : Below w.heap.size w w') : NineAt w' b o h wb l D S Fn Nm Sy sl :=
  ⟨YbulkaqtiFmt.later hb k.c0, YbulkaqtiFmt.later hb k.c1, YbulkaqtiFmt.later hb k.c2, YbulkaqtiFmt.later hb k.c3, YbulkaqtiFmt.later hb k.c4, YbulkaqtiFmt.later hb k.c5, YbulkaqtiFmt.later hb k.c6, YbulkaqtiFmt.later hb k.c7, YbulkaqtiFmt.later hb k.c8⟩
theorem NineAt.below {w w' : World} {b o B : Nat} {h wb l : Bool} {D S Fn Nm Sy : Int} {sl : Value} (k : NineAt w b o h wb l D S Fn Nm Sy sl) (hb : Below B w w') (hB : b < B) : NineAt w' b o h wb l D S Fn Nm Sy sl :=
  ⟨(hb.cell (p := ⟨b, _, none⟩) hB).trans k.c0, (hb.cell (p := ⟨b, _, none⟩) hB).trans k.c1, (hb.cell (p := ⟨b, _, none⟩) hB).trans k.c2, (hb.cell (p := ⟨b, _, none⟩) hB).trans k.c3, (hb.cell (p := ⟨b, _, none⟩) hB).trans k.c4, (hb.cell (p := ⟨b, _, none⟩) hB).trans k.c5, (hb.cell (p := ⟨b, _, none⟩) hB).trans k.c6, (hb.cell (p := ⟨b, _, none⟩) hB).trans k.c7, (hb.cell (p := ⟨b, _, none⟩) hB).trans k.c8⟩

theorem and_u16' (a : Int) : 0 ≤ bits .and .u16 a 32767 ∧ bits .and .u16 a 32767 ≤ 32767 := by
  have e : bits .and .u16 a 32767 = IntKind.u16.wrap ((BitVec.ofInt 16 a &&& BitVec.ofInt 16 32767).toNat : Int) := rfl
  rw [e, BitVec.toNat_and, IntKind.wrap_u16]
  have : (BitVec.ofInt 16 a).toNat &&& (BitVec.ofInt 16 32767).toNat ≤ (BitVec.ofInt 16 32767).toNat := Nat.and_le_right
  have k : (BitVec.ofInt 16 32767).toNat = 32767 := by decide
  omega
theorem and_u8' (a : Int) : 0 ≤ bits .and .u8 a 127 ∧ bits .and .u8 a 127 ≤ 127 := by
  have e : bits .and .u8 a 127 = IntKind.u8.wrap ((BitVec.ofInt 8 a &&& BitVec.ofInt 8 127).toNat : Int) := rfl
  rw [e, BitVec.toNat_and, IntKind.wrap_u8']
  have : (BitVec.ofInt 8 a).toNat &&& (BitVec.ofInt 8 127).toNat ≤ (BitVec.ofInt 8 127).toNat := Nat.and_le_right
  have k : (BitVec.ofInt 8 127).toNat = 127 := by decide
  omega

theorem Dat.bD (d : Dat) : 0 ≤ d.D ∧ d.D ≤ 32767 := and_u16' _
theorem Dat.bS (d : Dat) : 0 ≤ d.S ∧ d.S ≤ 127 := and_u8' _
theorem Dat.bN (d : Dat) : 0 ≤ d.N ∧ d.N ≤ 32767 := and_u16' _

theorem block_dat (d : Dat) (w : World) (hl : d.len ≤ maxLen) (hb : 0 < d.len → ∃ a, d.ad = some a ∧ ∀ j, j < d.len → w.cell? (a.add j) = some (.int .u8 (d.bs j))) :
    Calls Ybaf.prog 10 #[.agg #[.bool d.h, .bool d.wb, .bool d.l, .int .u16 d.dev, .int .u8 d.st, .int .u8 d.fn, .int .u16 d.num, .int .u32 d.sys, .slice d.ad d.len d.cap]] w fun e w' =>
      e = .returned (.agg #[.bool d.h, .int .u16 d.D, .bool d.wb, .int .u8 d.S, .int .u8 d.fn, .bool d.l, .int .u16 d.N, .int .u32 d.sys, .slice (some ⟨w.heap.size + 1 + 1, 0, none⟩) d.nb d.nb]) ∧ w.heap.size + 1 + 1 < w'.heap.size ∧
      w'.heap[w.heap.size + 1 + 1]? = some (.cells (byts d.bs d.nb).toArray 5 (0, 0)) ∧ Below w.heap.size w w' :=
  block_any d.h d.wb d.l d.dev d.st d.fn d.num d.sys d.ad d.len d.cap d.bs w hl hb
theorem Dat.one (d : Dat) (g : Nat) : ∀ x ∈ d.cells g, x.oneCell' = true := by
  intro x hx
  simp only [Dat.cells, List.mem_cons, List.not_mem_nil, or_false] at hx
  rcases hx with rfl | rfl | rfl | rfl | rfl | rfl | rfl | rfl | rfl <;> rfl

/-- the world in which sendEnded is called: messenger, 'called', (an upper layer,) the environment -/
def nextU (wr : World) (B : Nat) (q : Value) (r0 : Int) : World :=
  (((wr.alloc (.cells (msgr q r0 (.func (Fn.func 14) #[] #[.pointer (some ⟨B + 1, 0, none⟩)]) (.func (Fn.func 15) #[] #[.pointer (some ⟨B + 1, 0, none⟩)]) (.iface 63 (.pointer (some ⟨B + 1 + 1, 0, none⟩)))) 61)).alloc (.cells #[.int .i64 0] 3)).alloc (.cells #[.slice none 0 0, .slice none 0 0, .int .i64 0] 66)).alloc (.cells #[.slice none 0 0, .slice none 0 0, .int .i64 0] 71)
def nextN (wr : World) (B : Nat) (q : Value) (r0 : Int) : World :=
  ((wr.alloc (.cells (msgr q r0 (.func (Fn.func 14) #[] #[.pointer (some ⟨B + 1, 0, none⟩)]) (.func (Fn.func 15) #[] #[.pointer (some ⟨B + 1, 0, none⟩)]) .nilIface) 61)).alloc (.cells #[.int .i64 0] 3)).alloc (.cells #[.slice none 0 0, .slice none 0 0, .int .i64 0] 71)

structure FactsQ (W : World) (B E : Nat) (q : Value) (r0 : Int) : Prop where
  size : W.heap.size = E + 1
  q : W.cell? ⟨B, 23, none⟩ = some (q)
  r : W.cell? ⟨B, 24, none⟩ = some (.int .i64 r0)
  c2 : W.cell? ⟨B, 2, none⟩ = some (.int .i64 0)
  c9 : W.cell? ⟨B, 9, none⟩ = some (.int .i64 0)
  c12 : W.cell? ⟨B, 12, none⟩ = some (.slice none 0 0)
  c13 : W.cell? ⟨B, 13, none⟩ = some (.int .i64 0)
  c14 : W.cell? ⟨B, 14, none⟩ = some (.bool false)
  k : W.cell? ⟨B + 1, 0, none⟩ = some (.int .i64 0)
  e0 : W.cell? ⟨E, 0, none⟩ = some (.slice none 0 0)
  e1 : W.cell? ⟨E, 1, none⟩ = some (.slice none 0 0)
  e2 : W.cell? ⟨E, 2, none⟩ = some (.int .i64 0)
  zq : W.frozen? ⟨B, 23, none⟩ = false
  zr : W.frozen? ⟨B, 24, none⟩ = false
  z9 : W.frozen? ⟨B, 9, none⟩ = false
  z12 : W.frozen? ⟨B, 12, none⟩ = false
  z13 : W.frozen? ⟨B, 13, none⟩ = false
  z14 : W.frozen? ⟨B, 14, none⟩ = false
  y0 : W.frozen? ⟨E, 0, none⟩ = false
  y1 : W.frozen? ⟨E, 1, none⟩ = false
theorem factsNextU (wr : World) (B : Nat) (q : Value) (r0 : Int) (hs : wr.heap.size = B) : FactsQ (nextU wr B q r0) B (B + 1 + 1 + 1) q r0 := by
  subst hs
  refine ⟨?_, ?_, ?_, ?_, ?_, ?_, ?_, ?_, ?_, ?_, ?_, ?_, ?_, ?_, ?_, ?_, ?_, ?_, ?_, ?_⟩
  all_goals unfold nextU msgr; simp [go_sem]
theorem factsNextN (wr : World) (B : Nat) (q : Value) (r0 : Int) (hs : wr.heap.size = B) : FactsQ (nextN wr B q r0) B (B + 1 + 1) q r0 := by
  subst hs
  refine ⟨?_, ?_, ?_, ?_, ?_, ?_, ?_, ?_, ?_, ?_, ?_, ?_, ?_, ?_, ?_, ?_, ?_, ?_, ?_, ?_⟩
  all_goals unfold nextN msgr; simp [go_sem]
theorem nextU_up (wr : World) (B : Nat) (q : Value) (r0 : Int) (hs : wr.heap.size = B) : (nextU wr B q r0).cell? ⟨B + 1 + 1, 0, none⟩ = some (.slice none 0 0) ∧ (nextU wr B q r0).cell? ⟨B + 1 + 1, 2, none⟩ = some (.int .i64 0) := by
  subst hs
  refine ⟨?_, ?_⟩
  all_goals unfold nextU msgr; simp [go_sem]
theorem belowNextU (wr : World) (B : Nat) (q : Value) (r0 : Int) (hs : wr.heap.size = B) : Below wr.heap.size wr (nextU wr B q r0) := by
  subst hs
  exact ((((Below.refl _ _).alloc (Nat.le_refl _) _).alloc (by simp) _).alloc (by simp; omega) _).alloc (by simp; omega) _
theorem belowNextN (wr : World) (B : Nat) (q : Value) (r0 : Int) (hs : wr.heap.size = B) : Below wr.heap.size wr (nextN wr B q r0) := by
  subst hs
  exact (((Below.refl _ _).alloc (Nat.le_refl _) _).alloc (by simp) _).alloc (by simp; omega) _
end Go.Proofs.YbulkaqtiFmt
