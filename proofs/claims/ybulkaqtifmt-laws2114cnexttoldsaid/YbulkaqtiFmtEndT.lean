/-
  LawS2114CEnd: THE LAW's WALK where the send went through (sent: the queue is empty), and what both roads share.
-/
import Derived.Test.YbulkaqtiFmtEnded
namespace Go.Proofs.YbulkaqtiFmt
open Go.RowKit
set_option linter.unusedVariables false

theorem neq_nil31 (w : World) : (binOp .neq 31 (.slice none 0 0) (.slice none 0 0)).run Ybaf.prog w = .ok (.bool false) w := by kernel_rfl
theorem neq_nil45 (w : World) : (binOp .neq 45 (.slice none 0 0) (.slice none 0 0)).run Ybaf.prog w = .ok (.bool false) w := by kernel_rfl

/-- a new messenger's cells -/
def msgr (q : Value) (r0 : Int) (fs ff uv : Value) : Array Value :=
  #[.int .i64 0, .int .i64 0, .int .i64 0, .nilFunc, .nilFunc, .int .i64 0, .nilFunc, .nilFunc, .nilIface, .int .i64 0, .slice none 0 0, .int .i64 0, .slice none 0 0, .int .i64 0, .bool false, .int .u16 0, .int .i64 0, .nilFunc, .nilFunc, .nilFunc, fs, ff, uv, q, .int .i64 r0,
    .bool false, .int .u16 0, .bool false, .int .u8 0, .int .u8 0, .bool false, .int .u16 0, .int .u32 0, .bool false, .bool false, .bool false, .int .u16 0, .bool false, .int .u8 0, .int .u8 0, .bool false, .int .u16 0, .int .u32 0, .slice none 0 0, .int .i64 0]
/-- the world in which sendEnded is called: messenger, two logs, (an upper layer,) the environment -/
def endU (wr : World) (B : Nat) (q : Value) (r0 : Int) (fs ff : Value) : World :=
  ((((wr.alloc (.cells (msgr q r0 fs ff (.iface 63 (.pointer (some ⟨B + 1 + 1 + 1, 0, none⟩)))) 61)).alloc (.cells #[.slice none 0 0] 62)).alloc (.cells #[.slice none 0 0] 62)).alloc (.cells #[.slice none 0 0, .slice none 0 0, .int .i64 0] 66)).alloc (.cells #[.slice none 0 0, .slice none 0 0, .int .i64 0] 71)
def endN (wr : World) (B : Nat) (q : Value) (r0 : Int) (fs ff : Value) : World :=
  (((wr.alloc (.cells (msgr q r0 fs ff .nilIface) 61)).alloc (.cells #[.slice none 0 0] 62)).alloc (.cells #[.slice none 0 0] 62)).alloc (.cells #[.slice none 0 0, .slice none 0 0, .int .i64 0] 71)

structure FactsU (W : World) (B : Nat) (q : Value) (r0 : Int) (fs ff : Value) : Prop where
  size : W.heap.size = B + 1 + 1 + 1 + 1 + 1
  q : W.cell? ⟨B, 23, none⟩ = some (q)
  r : W.cell? ⟨B, 24, none⟩ = some (.int .i64 r0)
  s : W.cell? ⟨B, 20, none⟩ = some (fs)
  f : W.cell? ⟨B, 21, none⟩ = some (ff)
  u : W.cell? ⟨B, 22, none⟩ = some (.iface 63 (.pointer (some ⟨B + 1 + 1 + 1, 0, none⟩)))
  o : W.cell? ⟨B, 12, none⟩ = some (.slice none 0 0)
  k : W.cell? ⟨B + 1, 0, none⟩ = some (.slice none 0 0)
  l : W.cell? ⟨B + 1 + 1, 0, none⟩ = some (.slice none 0 0)
  e0 : W.cell? ⟨B + 1 + 1 + 1 + 1, 0, none⟩ = some (.slice none 0 0)
  e1 : W.cell? ⟨B + 1 + 1 + 1 + 1, 1, none⟩ = some (.slice none 0 0)
  e2 : W.cell? ⟨B + 1 + 1 + 1 + 1, 2, none⟩ = some (.int .i64 0)
  u0 : W.cell? ⟨B + 1 + 1 + 1, 0, none⟩ = some (.slice none 0 0)
  u1 : W.cell? ⟨B + 1 + 1 + 1, 1, none⟩ = some (.slice none 0 0)
  u2 : W.cell? ⟨B + 1 + 1 + 1, 2, none⟩ = some (.int .i64 0)
  zq : W.frozen? ⟨B, 23, none⟩ = false
  zr : W.frozen? ⟨B, 24, none⟩ = false
  zk : W.frozen? ⟨B + 1, 0, none⟩ = false
  zl : W.frozen? ⟨B + 1 + 1, 0, none⟩ = false
  z0 : W.frozen? ⟨B + 1 + 1 + 1, 0, none⟩ = false
  z1 : W.frozen? ⟨B + 1 + 1 + 1, 1, none⟩ = false
theorem factsU (wr : World) (B : Nat) (q : Value) (r0 : Int) (fs ff : Value) (hs : wr.heap.size = B) : FactsU (endU wr B q r0 fs ff) B q r0 fs ff := by
  subst hs
  refine ⟨?_, ?_, ?_, ?_, ?_, ?_, ?_, ?_, ?_, ?_, ?_, ?_, ?_, ?_, ?_, ?_, ?_, ?_, ?_, ?_, ?_⟩
  all_goals unfold endU msgr; simp [go_sem]
theorem belowU (w wr : World) (B : Nat) (q : Value) (r0 : Int) (fs ff : Value) (hs : wr.heap.size = B) (h : Below w.heap.size w wr) : Below w.heap.size w (endU wr B q r0 fs ff) := by
  subst hs
  have := h.size
  exact ((((h.alloc (by omega) _).alloc (by simp; omega) _).alloc (by simp; omega) _).alloc (by simp; omega) _).alloc (by simp; omega) _

structure FactsN (W : World) (B : Nat) (q : Value) (r0 : Int) (fs ff : Value) : Prop where
  size : W.heap.size = B + 1 + 1 + 1 + 1
  q : W.cell? ⟨B, 23, none⟩ = some (q)
  r : W.cell? ⟨B, 24, none⟩ = some (.int .i64 r0)
  s : W.cell? ⟨B, 20, none⟩ = some (fs)
  f : W.cell? ⟨B, 21, none⟩ = some (ff)
  u : W.cell? ⟨B, 22, none⟩ = some (.nilIface)
  o : W.cell? ⟨B, 12, none⟩ = some (.slice none 0 0)
  k : W.cell? ⟨B + 1, 0, none⟩ = some (.slice none 0 0)
  l : W.cell? ⟨B + 1 + 1, 0, none⟩ = some (.slice none 0 0)
  e0 : W.cell? ⟨B + 1 + 1 + 1, 0, none⟩ = some (.slice none 0 0)
  e1 : W.cell? ⟨B + 1 + 1 + 1, 1, none⟩ = some (.slice none 0 0)
  e2 : W.cell? ⟨B + 1 + 1 + 1, 2, none⟩ = some (.int .i64 0)
  zq : W.frozen? ⟨B, 23, none⟩ = false
  zr : W.frozen? ⟨B, 24, none⟩ = false
  zk : W.frozen? ⟨B + 1, 0, none⟩ = false
  zl : W.frozen? ⟨B + 1 + 1, 0, none⟩ = false
theorem factsN (wr : World) (B : Nat) (q : Value) (r0 : Int) (fs ff : Value) (hs : wr.heap.size = B) : FactsN (endN wr B q r0 fs ff) B q r0 fs ff := by
  subst hs
  refine ⟨?_, ?_, ?_, ?_, ?_, ?_, ?_, ?_, ?_, ?_, ?_, ?_, ?_, ?_, ?_, ?_⟩
  all_goals unfold endN msgr; simp [go_sem]
theorem belowN (w wr : World) (B : Nat) (q : Value) (r0 : Int) (fs ff : Value) (hs : wr.heap.size = B) (h : Below w.heap.size w wr) : Below w.heap.size w (endN wr B q r0 fs ff) := by
  subst hs
  have := h.size
  exact (((h.alloc (by omega) _).alloc (by simp; omega) _).alloc (by simp; omega) _).alloc (by simp; omega) _

set_option maxHeartbeats 4000000 in
set_option maxRecDepth 100000 in
theorem end_tcu (r0 ret : Int) (ad : Option Addr) (len cap : Nat) (w : World) (hlen : len ≤ 1024) :
    Calls Ybaf.prog 5 #[.int .i64 r0, .int .i64 ret, .bool true, .bool true, .bool true, .slice ad len cap] w fun e w' => e = .returned (.bool true) ∧ Below w.heap.size w w' := by
  have d1 : decide (1024 < (len : Int)) = false := by simp; omega
  have nn := neq_nil31
  have hwr : (w.alloc (.cells #[] 51)).heap.size = w.heap.size + 1 := by simp
  have hbwr : Below w.heap.size w (w.alloc (.cells #[] 51)) := (Below.refl _ _).alloc (Nat.le_refl _) _
  go_enter Ybaf.func5, Ybaf.ntmps5
  have HX := factsU (w.alloc (.cells #[] 51)) (w.heap.size + 1) (.slice (some ⟨w.heap.size, 0, none⟩) 0 0) r0 (.func (Fn.func 11) #[] #[.pointer (some ⟨w.heap.size + 1 + 1, 0, none⟩)]) (.func (Fn.func 12) #[] #[.pointer (some ⟨w.heap.size + 1 + 1 + 1, 0, none⟩)]) hwr
  have HBW : Hid (Below w.heap.size w (endU (w.alloc (.cells #[] 51)) (w.heap.size + 1) (.slice (some ⟨w.heap.size, 0, none⟩) 0 0) r0 (.func (Fn.func 11) #[] #[.pointer (some ⟨w.heap.size + 1 + 1, 0, none⟩)]) (.func (Fn.func 12) #[] #[.pointer (some ⟨w.heap.size + 1 + 1 + 1, 0, none⟩)]))) := belowU w (w.alloc (.cells #[] 51)) (w.heap.size + 1) (.slice (some ⟨w.heap.size, 0, none⟩) 0 0) r0 (.func (Fn.func 11) #[] #[.pointer (some ⟨w.heap.size + 1 + 1, 0, none⟩)]) (.func (Fn.func 12) #[] #[.pointer (some ⟨w.heap.size + 1 + 1 + 1, 0, none⟩)]) hwr hbwr
  go_wp2_with fail
  refine (ended_tcu (w.heap.size + 1) w.heap.size (w.heap.size + 1 + 1) (w.heap.size + 1 + 1 + 1 + 1) _ r0 ret _ _ (endU (w.alloc (.cells #[] 51)) (w.heap.size + 1) (.slice (some ⟨w.heap.size, 0, none⟩) 0 0) r0 (.func (Fn.func 11) #[] #[.pointer (some ⟨w.heap.size + 1 + 1, 0, none⟩)]) (.func (Fn.func 12) #[] #[.pointer (some ⟨w.heap.size + 1 + 1 + 1, 0, none⟩)])) (by omega) HX.r HX.zr HX.q HX.s HX.u HX.k HX.zk (by omega) (by omega) HX.u0 HX.u1 HX.z0 HX.z1 (by omega) (by omega) (by omega)).mono ?_
  rintro e w2 ⟨rfl, h24, hO, hU0, hU1, hbut⟩
  have HBF : Hid (Below w.heap.size w w2) := HBW.out.trans hbut.below
  have hsW := HX.size
  have x0 := (hbut.cell ⟨w.heap.size + 1 + 1 + 1 + 1 + 1, 0, none⟩ (World.block_lt_of_cell? _ _ HX.e0) (by simp)).trans HX.e0
  have x1 := (hbut.cell ⟨w.heap.size + 1 + 1 + 1 + 1 + 1, 1, none⟩ (World.block_lt_of_cell? _ _ HX.e1) (by simp)).trans HX.e1
  have x2 := (hbut.cell ⟨w.heap.size + 1 + 1 + 1 + 1 + 1, 2, none⟩ (World.block_lt_of_cell? _ _ HX.e2) (by simp)).trans HX.e2
  have xo := (hbut.cell ⟨w.heap.size + 1, 12, none⟩ (World.block_lt_of_cell? _ _ HX.o) (by simp)).trans HX.o
  have xq := (hbut.cell ⟨w.heap.size + 1, 23, none⟩ (World.block_lt_of_cell? _ _ HX.q) (by simp)).trans HX.q
  have xl := (hbut.cell ⟨w.heap.size + 1 + 1 + 1, 0, none⟩ (World.block_lt_of_cell? _ _ HX.l) (by simp)).trans HX.l
  have xu := (hbut.cell ⟨w.heap.size + 1 + 1 + 1 + 1, 2, none⟩ (World.block_lt_of_cell? _ _ HX.u2) (by simp)).trans HX.u2
  obtain ⟨gO, cO, o1, o2⟩ := hO
  obtain ⟨g0, c0, p1, p2⟩ := hU0
  obtain ⟨g1, c1, q1, q2⟩ := hU1
  clear hbut HX HBW hsW hbwr
  go_wp2
  go_ret
  exact ⟨rfl, HBF.out⟩

set_option maxHeartbeats 4000000 in
set_option maxRecDepth 100000 in
theorem end_tcn (r0 ret : Int) (ad : Option Addr) (len cap : Nat) (w : World) (hlen : len ≤ 1024) :
    Calls Ybaf.prog 5 #[.int .i64 r0, .int .i64 ret, .bool true, .bool false, .bool true, .slice ad len cap] w fun e w' => e = .returned (.bool true) ∧ Below w.heap.size w w' := by
  have d1 : decide (1024 < (len : Int)) = false := by simp; omega
  have nn := neq_nil31
  have hwr : (w.alloc (.cells #[] 51)).heap.size = w.heap.size + 1 := by simp
  have hbwr : Below w.heap.size w (w.alloc (.cells #[] 51)) := (Below.refl _ _).alloc (Nat.le_refl _) _
  go_enter Ybaf.func5, Ybaf.ntmps5
  have HX := factsN (w.alloc (.cells #[] 51)) (w.heap.size + 1) (.slice (some ⟨w.heap.size, 0, none⟩) 0 0) r0 (.func (Fn.func 11) #[] #[.pointer (some ⟨w.heap.size + 1 + 1, 0, none⟩)]) (.func (Fn.func 12) #[] #[.pointer (some ⟨w.heap.size + 1 + 1 + 1, 0, none⟩)]) hwr
  have HBW : Hid (Below w.heap.size w (endN (w.alloc (.cells #[] 51)) (w.heap.size + 1) (.slice (some ⟨w.heap.size, 0, none⟩) 0 0) r0 (.func (Fn.func 11) #[] #[.pointer (some ⟨w.heap.size + 1 + 1, 0, none⟩)]) (.func (Fn.func 12) #[] #[.pointer (some ⟨w.heap.size + 1 + 1 + 1, 0, none⟩)]))) := belowN w (w.alloc (.cells #[] 51)) (w.heap.size + 1) (.slice (some ⟨w.heap.size, 0, none⟩) 0 0) r0 (.func (Fn.func 11) #[] #[.pointer (some ⟨w.heap.size + 1 + 1, 0, none⟩)]) (.func (Fn.func 12) #[] #[.pointer (some ⟨w.heap.size + 1 + 1 + 1, 0, none⟩)]) hwr hbwr
  go_wp2_with fail
  refine (ended_tcn (w.heap.size + 1) w.heap.size (w.heap.size + 1 + 1) _ r0 ret _ _ (endN (w.alloc (.cells #[] 51)) (w.heap.size + 1) (.slice (some ⟨w.heap.size, 0, none⟩) 0 0) r0 (.func (Fn.func 11) #[] #[.pointer (some ⟨w.heap.size + 1 + 1, 0, none⟩)]) (.func (Fn.func 12) #[] #[.pointer (some ⟨w.heap.size + 1 + 1 + 1, 0, none⟩)])) (by omega) HX.r HX.zr HX.q HX.s HX.u HX.k HX.zk (by omega) (by omega)).mono ?_
  rintro e w2 ⟨rfl, h24, hO, hbut⟩
  have HBF : Hid (Below w.heap.size w w2) := HBW.out.trans hbut.below
  have hsW := HX.size
  have x0 := (hbut.cell ⟨w.heap.size + 1 + 1 + 1 + 1, 0, none⟩ (World.block_lt_of_cell? _ _ HX.e0) (by simp)).trans HX.e0
  have x1 := (hbut.cell ⟨w.heap.size + 1 + 1 + 1 + 1, 1, none⟩ (World.block_lt_of_cell? _ _ HX.e1) (by simp)).trans HX.e1
  have x2 := (hbut.cell ⟨w.heap.size + 1 + 1 + 1 + 1, 2, none⟩ (World.block_lt_of_cell? _ _ HX.e2) (by simp)).trans HX.e2
  have xo := (hbut.cell ⟨w.heap.size + 1, 12, none⟩ (World.block_lt_of_cell? _ _ HX.o) (by simp)).trans HX.o
  have xq := (hbut.cell ⟨w.heap.size + 1, 23, none⟩ (World.block_lt_of_cell? _ _ HX.q) (by simp)).trans HX.q
  have xl := (hbut.cell ⟨w.heap.size + 1 + 1 + 1, 0, none⟩ (World.block_lt_of_cell? _ _ HX.l) (by simp)).trans HX.l
  obtain ⟨gO, cO, o1, o2⟩ := hO
  clear hbut HX HBW hsW hbwr
  go_wp2
  go_ret
  exact ⟨rfl, HBF.out⟩

set_option maxHeartbeats 4000000 in
set_option maxRecDepth 100000 in
theorem end_tnu (r0 ret : Int) (ad : Option Addr) (len cap : Nat) (w : World) (hlen : len ≤ 1024) :
    Calls Ybaf.prog 5 #[.int .i64 r0, .int .i64 ret, .bool true, .bool true, .bool false, .slice ad len cap] w fun e w' => e = .returned (.bool true) ∧ Below w.heap.size w w' := by
  have d1 : decide (1024 < (len : Int)) = false := by simp; omega
  have nn := neq_nil31
  have hwr : (w.alloc (.cells #[] 51)).heap.size = w.heap.size + 1 := by simp
  have hbwr : Below w.heap.size w (w.alloc (.cells #[] 51)) := (Below.refl _ _).alloc (Nat.le_refl _) _
  go_enter Ybaf.func5, Ybaf.ntmps5
  have HX := factsU (w.alloc (.cells #[] 51)) (w.heap.size + 1) (.slice (some ⟨w.heap.size, 0, none⟩) 0 0) r0 .nilFunc .nilFunc hwr
  have HBW : Hid (Below w.heap.size w (endU (w.alloc (.cells #[] 51)) (w.heap.size + 1) (.slice (some ⟨w.heap.size, 0, none⟩) 0 0) r0 .nilFunc .nilFunc)) := belowU w (w.alloc (.cells #[] 51)) (w.heap.size + 1) (.slice (some ⟨w.heap.size, 0, none⟩) 0 0) r0 .nilFunc .nilFunc hwr hbwr
  go_wp2_with fail
  refine (ended_tnu (w.heap.size + 1) w.heap.size (w.heap.size + 1 + 1 + 1 + 1) _ r0 ret _ _ (endU (w.alloc (.cells #[] 51)) (w.heap.size + 1) (.slice (some ⟨w.heap.size, 0, none⟩) 0 0) r0 .nilFunc .nilFunc) (by omega) HX.r HX.zr HX.q HX.s HX.u HX.u0 HX.u1 HX.z0 HX.z1 (by omega) (by omega)).mono ?_
  rintro e w2 ⟨rfl, h24, hU0, hU1, hbut⟩
  have HBF : Hid (Below w.heap.size w w2) := HBW.out.trans hbut.below
  have hsW := HX.size
  have x0 := (hbut.cell ⟨w.heap.size + 1 + 1 + 1 + 1 + 1, 0, none⟩ (World.block_lt_of_cell? _ _ HX.e0) (by simp)).trans HX.e0
  have x1 := (hbut.cell ⟨w.heap.size + 1 + 1 + 1 + 1 + 1, 1, none⟩ (World.block_lt_of_cell? _ _ HX.e1) (by simp)).trans HX.e1
  have x2 := (hbut.cell ⟨w.heap.size + 1 + 1 + 1 + 1 + 1, 2, none⟩ (World.block_lt_of_cell? _ _ HX.e2) (by simp)).trans HX.e2
  have xo := (hbut.cell ⟨w.heap.size + 1, 12, none⟩ (World.block_lt_of_cell? _ _ HX.o) (by simp)).trans HX.o
  have xq := (hbut.cell ⟨w.heap.size + 1, 23, none⟩ (World.block_lt_of_cell? _ _ HX.q) (by simp)).trans HX.q
  have xk := (hbut.cell ⟨w.heap.size + 1 + 1, 0, none⟩ (World.block_lt_of_cell? _ _ HX.k) (by simp)).trans HX.k
  have xl := (hbut.cell ⟨w.heap.size + 1 + 1 + 1, 0, none⟩ (World.block_lt_of_cell? _ _ HX.l) (by simp)).trans HX.l
  have xu := (hbut.cell ⟨w.heap.size + 1 + 1 + 1 + 1, 2, none⟩ (World.block_lt_of_cell? _ _ HX.u2) (by simp)).trans HX.u2
  obtain ⟨g0, c0, p1, p2⟩ := hU0
  obtain ⟨g1, c1, q1, q2⟩ := hU1
  clear hbut HX HBW hsW hbwr
  go_wp2
  go_ret
  exact ⟨rfl, HBF.out⟩

set_option maxHeartbeats 4000000 in
set_option maxRecDepth 100000 in
theorem end_tnn (r0 ret : Int) (ad : Option Addr) (len cap : Nat) (w : World) (hlen : len ≤ 1024) :
    Calls Ybaf.prog 5 #[.int .i64 r0, .int .i64 ret, .bool true, .bool false, .bool false, .slice ad len cap] w fun e w' => e = .returned (.bool true) ∧ Below w.heap.size w w' := by
  have d1 : decide (1024 < (len : Int)) = false := by simp; omega
  have nn := neq_nil31
  have hwr : (w.alloc (.cells #[] 51)).heap.size = w.heap.size + 1 := by simp
  have hbwr : Below w.heap.size w (w.alloc (.cells #[] 51)) := (Below.refl _ _).alloc (Nat.le_refl _) _
  go_enter Ybaf.func5, Ybaf.ntmps5
  have HX := factsN (w.alloc (.cells #[] 51)) (w.heap.size + 1) (.slice (some ⟨w.heap.size, 0, none⟩) 0 0) r0 .nilFunc .nilFunc hwr
  have HBW : Hid (Below w.heap.size w (endN (w.alloc (.cells #[] 51)) (w.heap.size + 1) (.slice (some ⟨w.heap.size, 0, none⟩) 0 0) r0 .nilFunc .nilFunc)) := belowN w (w.alloc (.cells #[] 51)) (w.heap.size + 1) (.slice (some ⟨w.heap.size, 0, none⟩) 0 0) r0 .nilFunc .nilFunc hwr hbwr
  go_wp2_with fail
  refine (ended_tnn (w.heap.size + 1) w.heap.size _ r0 ret _ _ (endN (w.alloc (.cells #[] 51)) (w.heap.size + 1) (.slice (some ⟨w.heap.size, 0, none⟩) 0 0) r0 .nilFunc .nilFunc) (by omega) HX.r HX.zr HX.q HX.s HX.u).mono ?_
  rintro e w2 ⟨rfl, h24, hbut⟩
  have HBF : Hid (Below w.heap.size w w2) := HBW.out.trans hbut.below
  have hsW := HX.size
  have x0 := (hbut.cell ⟨w.heap.size + 1 + 1 + 1 + 1, 0, none⟩ (World.block_lt_of_cell? _ _ HX.e0) (by simp)).trans HX.e0
  have x1 := (hbut.cell ⟨w.heap.size + 1 + 1 + 1 + 1, 1, none⟩ (World.block_lt_of_cell? _ _ HX.e1) (by simp)).trans HX.e1
  have x2 := (hbut.cell ⟨w.heap.size + 1 + 1 + 1 + 1, 2, none⟩ (World.block_lt_of_cell? _ _ HX.e2) (by simp)).trans HX.e2
  have xo := (hbut.cell ⟨w.heap.size + 1, 12, none⟩ (World.block_lt_of_cell? _ _ HX.o) (by simp)).trans HX.o
  have xq := (hbut.cell ⟨w.heap.size + 1, 23, none⟩ (World.block_lt_of_cell? _ _ HX.q) (by simp)).trans HX.q
  have xk := (hbut.cell ⟨w.heap.size + 1 + 1, 0, none⟩ (World.block_lt_of_cell? _ _ HX.k) (by simp)).trans HX.k
  have xl := (hbut.cell ⟨w.heap.size + 1 + 1 + 1, 0, none⟩ (World.block_lt_of_cell? _ _ HX.l) (by simp)).trans HX.l
  clear hbut HX HBW hsW hbwr
  go_wp2
  go_ret
  exact ⟨rfl, HBF.out⟩

end Go.Proofs.YbulkaqtiFmt
