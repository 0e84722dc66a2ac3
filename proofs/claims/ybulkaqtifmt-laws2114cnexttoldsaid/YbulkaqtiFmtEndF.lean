/-
  LawS2114CEnd: THE LAW's WALK where the send failed: the queue is built in a loop, and dropped.
-/
import Derived.Test.YbulkaqtiFmtEndT
namespace Go.Proofs.YbulkaqtiFmt
open Go.RowKit
set_option linter.unusedVariables false
theorem info51 : (Ybaf.prog.info? 51).map (fun i => (i.zero, i.size, i.bytes)) = some (some (.agg #[.bool false, .int .u16 0, .bool false, .int .u8 0, .int .u8 0, .bool false, .int .u16 0, .int .u32 0, .slice none 0 0]), 9, 40) := by kernel_rfl

/-- the law's plain data of one block, at nine cells -/
structure BlkAt (w : World) (b o : Nat) (h wb l : Bool) (dev st fn num sys : Int) (ad : Option Addr) (len cap : Nat) (bs : Nat → Int) : Prop where
  c0 : w.cell? ⟨b, o, none⟩ = some (.bool h)
  c1 : w.cell? ⟨b, o + 1, none⟩ = some (.bool wb)
  c2 : w.cell? ⟨b, o + 2, none⟩ = some (.bool l)
  c3 : w.cell? ⟨b, o + 3, none⟩ = some (.int .u16 dev)
  c4 : w.cell? ⟨b, o + 4, none⟩ = some (.int .u8 st)
  c5 : w.cell? ⟨b, o + 5, none⟩ = some (.int .u8 fn)
  c6 : w.cell? ⟨b, o + 6, none⟩ = some (.int .u16 num)
  c7 : w.cell? ⟨b, o + 7, none⟩ = some (.int .u32 sys)
  c8 : w.cell? ⟨b, o + 8, none⟩ = some (.slice ad len cap)
  hlen : len ≤ maxLen
  body : 0 < len → ∃ a, ad = some a ∧ ∀ j, j < len → w.cell? (a.add j) = some (.int .u8 (bs j))

theorem grown_of_below {w w' : World} (h : Below w.heap.size w w') : w.grownBy w' none := ⟨h.os, h.tape, h.output, h.size, fun k hk _ => h.block k hk⟩
theorem own_ge {w : World} {B : Nat} {e : TypeId} {size n : Nat} {v : Value} {xs : List Value} (h : w.ownsRow B e size v n xs) : ∀ k, v.ownBlock = some k → B ≤ k := by
  intro k hk
  obtain ⟨_, hc⟩ := h
  rcases hc with ⟨rfl, _⟩ | ⟨g, cap, cur, rfl, hg, _⟩
  · cases hk
  · simp [Value.ownBlock] at hk; omega
theorem own_shape {w : World} {B : Nat} {e : TypeId} {size n : Nat} {v : Value} {xs : List Value} (h : w.ownsRow B e size v n xs) : ∃ qa qn qc, v = .slice qa qn qc := by
  obtain ⟨_, hc⟩ := h
  rcases hc with ⟨rfl, _⟩ | ⟨g, cap, cur, rfl, _⟩
  · exact ⟨_, _, _, rfl⟩
  · exact ⟨_, _, _, rfl⟩
theorem news_arr (w : World) (A : Array Value) (t : TypeId) (n : Nat) (h : n = w.heap.size) : ∀ j x, A.toList[j]? = some x → (w.alloc (.cells A t)).cell? ((⟨n, 0, none⟩ : Addr).add j) = some x := by
  intro j x hj
  rw [show (⟨n, 0, none⟩ : Addr).add j = ⟨n, j, none⟩ by simp [Addr.add]; exact fun h => h.symm, World.cell?_alloc_at _ _ _ _ h, ← Array.getElem?_toList]
  exact hj
theorem hd_one (h wb l : Bool) (dev st fn num sys : Int) (ad : Option Addr) (len cap : Nat) : ∀ x ∈ (hd h wb l dev st fn num sys (.slice ad len cap)).toList, x.oneCell' = true := by
  intro x hx
  simp only [hd, List.mem_cons, List.not_mem_nil, or_false] at hx
  rcases hx with rfl | rfl | rfl | rfl | rfl | rfl | rfl | rfl | rfl <;> rfl

set_option maxHeartbeats 4000000 in
set_option maxRecDepth 100000 in
theorem end_fcu (r0 ret : Int) (ad : Option Addr) (len cap : Nat) (w : World) (hlen : len ≤ 1024)
    (hq : ∀ wx, Below w.heap.size w wx → ∀ k : Nat, k < len → ∃ b off, ad = some ⟨b, off, none⟩ ∧ ∃ h wb l dev st fn num sys ad' len' cap' bs, BlkAt wx b (off + k * 9) h wb l dev st fn num sys ad' len' cap' bs) :
    Calls Ybaf.prog 5 #[.int .i64 r0, .int .i64 ret, .bool false, .bool true, .bool true, .slice ad len cap] w fun e w' => e = .returned (.bool true) ∧ Below w.heap.size w w' := by
  have d1 : decide (1024 < (len : Int)) = false := by simp; omega
  have nn := neq_nil31
  have nn5 := neq_nil45
  obtain ⟨i0, hi, hz0, hz1, hz2⟩ := info_parts info51
  obtain ⟨w0, hrun, hown0, hgr0⟩ := run_make_own (P := Ybaf.prog) w w.heap.size 45 51 i0 _ 9 Ybaf.underlying45 hi hz0 hz1 .i64 .i64 len (by rw [hz2]; omega) (small_max _ (by omega)) (Nat.le_refl _)
  have hb0 : Below w.heap.size w w0 := (Below.refl _ _).grown hgr0 (Nat.le_refl _) (fun k hk => by cases hk)
  have HO : Hid (w0.ownsRow w.heap.size 51 9 (.slice (some ⟨w.heap.size, 0, none⟩) 0 len) 0 []) := hown0
  have HB : Hid (Below w.heap.size w w0) := hb0
  have HQ : Hid (∀ wx, Below w.heap.size w wx → ∀ k : Nat, k < len → ∃ b off, ad = some ⟨b, off, none⟩ ∧ ∃ h wb l dev st fn num sys ad' len' cap' bs, BlkAt wx b (off + k * 9) h wb l dev st fn num sys ad' len' cap' bs) := hq
  clear hown0 hgr0 hb0 hq
  go_enter Ybaf.func5, Ybaf.ntmps5
  go_wp2_with fail
  go_loopw [13, 31] (fun v i wr => ∃ k : Nat, k ≤ len ∧ i = .int .i64 k ∧ (∃ xs, wr.ownsRow w.heap.size 51 9 v k xs) ∧ Below w.heap.size w wr) (fun _ i _ => len - (intOf i).toNat)
  case atStart => exact ⟨0, Nat.zero_le _, rfl, ⟨[], HO.out⟩, HB.out⟩
  case round =>
    obtain ⟨k, hk, rfl, ⟨xs, hown⟩, hbel⟩ := hrel
    have HW : Hid (wr.ownsRow w.heap.size 51 9 u13 k xs) := hown
    have HBW : Hid (Below w.heap.size w wr) := hbel
    clear hown hbel HO HB hrun
    by_cases hlt : k < len
    · obtain ⟨b, off, hbd, h, wb, l, dev, st, fn, num, sys, ad', len', cap', bs, hblk⟩ := HQ.out wr HBW.out k hlt
      subst hbd
      have c0 := hblk.c0
      have c1 := hblk.c1
      have c2 := hblk.c2
      have c3 := hblk.c3
      have c4 := hblk.c4
      have c5 := hblk.c5
      have c6 := hblk.c6
      have c7 := hblk.c7
      have c8 := hblk.c8
      have HBK : Hid (BlkAt wr b (off + k * 9) h wb l dev st fn num sys ad' len' cap' bs) := hblk
      clear hblk HQ
      go_wp2_with fail
      refine (block_any h wb l dev st fn num sys ad' len' cap' bs wr HBK.out.hlen HBK.out.body).mono ?_
      rintro e w1 ⟨rfl, hsz1, hheap, hbel1⟩
      have HW1 : Hid (w1.ownsRow w.heap.size 51 9 u13 k xs) := HW.out.kept (grown_of_below hbel1) (by cases u13.ownBlock <;> simp)
      have HB1 : Hid (Below w.heap.size w w1) := HBW.out.trans (hbel1.mono HBW.out.size)
      have hsw : w.heap.size ≤ w1.heap.size := HB1.out.size
      clear c0 c1 c2 c3 c4 c5 c6 c7 c8 hheap hbel1 hsz1 HBK
      unfold hd
      go_wp2_with (at_builtin; refine wpList_append_own _ rfl (.tmp 34) (.tmp 40) 45 rfl w.heap.size 51 i0 _ 9 40 Ybaf.underlying45 hi hz0 hz1 hz2 rfl (by decide) _ _ _ rfl (HW1.out.alloc _) ⟨w1.heap.size, 0, none⟩ 1 1 (hd h wb l dev st fn num sys _).toList rfl rfl (news_arr _ _ _ _ rfl) (hd_one _ _ _ _ _ _ _ _ _ _ _) (small_max _ (by omega)) (by omega) (by simp; omega) ?_)
      intro v2 w2 hown2 hgrow2 _
      have HW2 : Hid (∃ ys, w2.ownsRow w.heap.size 51 9 v2 (k + 1) ys) := ⟨_, hown2⟩
      have HB2 : Hid (Below w.heap.size w w2) := (HB1.out.alloc hsw _).grown hgrow2 (by simp; omega) (own_ge HW1.out)
      clear hown2 hgrow2
      go_wp2_with fail
      go_roundw
      case rel => exact ⟨k + 1, by omega, by go_num, HW2.out, HB2.out⟩
      case measure => simp [intOf]; omega
    · have hwr : wr.heap.size = wr.heap.size := rfl
      have hbwr := HBW.out
      have hws := HBW.out.size
      obtain ⟨qa, qn, qc, hu⟩ := own_shape HW.out
      subst hu
      clear HW HBW HQ hi hz0 hz1 hz2
      have HX := factsU wr (wr.heap.size) (.slice qa qn qc) r0 (.func (Fn.func 11) #[] #[.pointer (some ⟨wr.heap.size + 1, 0, none⟩)]) (.func (Fn.func 12) #[] #[.pointer (some ⟨wr.heap.size + 1 + 1, 0, none⟩)]) hwr
      have HBW : Hid (Below w.heap.size w (endU wr (wr.heap.size) (.slice qa qn qc) r0 (.func (Fn.func 11) #[] #[.pointer (some ⟨wr.heap.size + 1, 0, none⟩)]) (.func (Fn.func 12) #[] #[.pointer (some ⟨wr.heap.size + 1 + 1, 0, none⟩)]))) := belowU w wr (wr.heap.size) (.slice qa qn qc) r0 (.func (Fn.func 11) #[] #[.pointer (some ⟨wr.heap.size + 1, 0, none⟩)]) (.func (Fn.func 12) #[] #[.pointer (some ⟨wr.heap.size + 1 + 1, 0, none⟩)]) hwr hbwr
      go_wp2_with fail
      refine (ended_fcu (wr.heap.size) w.heap.size (wr.heap.size + 1 + 1) (wr.heap.size + 1 + 1 + 1) _ r0 ret _ (endU wr (wr.heap.size) (.slice qa qn qc) r0 (.func (Fn.func 11) #[] #[.pointer (some ⟨wr.heap.size + 1, 0, none⟩)]) (.func (Fn.func 12) #[] #[.pointer (some ⟨wr.heap.size + 1 + 1, 0, none⟩)])) (by omega) HX.r HX.zr HX.q HX.zq HX.f HX.u HX.l HX.zl (by omega) (by omega) HX.u0 HX.u1 HX.z0 HX.z1 (by omega) (by omega) (by omega)).mono ?_
      rintro e w2 ⟨rfl, h24, h23, hO, hU0, hU1, hbut⟩
      have HBF : Hid (Below w.heap.size w w2) := HBW.out.trans hbut.below
      have hsW := HX.size
      have x0 := (hbut.cell ⟨wr.heap.size + 1 + 1 + 1 + 1, 0, none⟩ (World.block_lt_of_cell? _ _ HX.e0) (by simp)).trans HX.e0
      have x1 := (hbut.cell ⟨wr.heap.size + 1 + 1 + 1 + 1, 1, none⟩ (World.block_lt_of_cell? _ _ HX.e1) (by simp)).trans HX.e1
      have x2 := (hbut.cell ⟨wr.heap.size + 1 + 1 + 1 + 1, 2, none⟩ (World.block_lt_of_cell? _ _ HX.e2) (by simp)).trans HX.e2
      have xo := (hbut.cell ⟨wr.heap.size, 12, none⟩ (World.block_lt_of_cell? _ _ HX.o) (by simp)).trans HX.o
      have xk := (hbut.cell ⟨wr.heap.size + 1, 0, none⟩ (World.block_lt_of_cell? _ _ HX.k) (by simp)).trans HX.k
      have xu := (hbut.cell ⟨wr.heap.size + 1 + 1 + 1, 2, none⟩ (World.block_lt_of_cell? _ _ HX.u2) (by simp)).trans HX.u2
      obtain ⟨gO, cO, o1, o2⟩ := hO
      obtain ⟨g0, c0, p1, p2⟩ := hU0
      obtain ⟨g1, c1, q1, q2⟩ := hU1
      clear hbut HX HBW hsW hbwr
      go_wp2
      go_ret
      exact ⟨rfl, HBF.out⟩

set_option maxHeartbeats 4000000 in
set_option maxRecDepth 100000 in
theorem end_fcn (r0 ret : Int) (ad : Option Addr) (len cap : Nat) (w : World) (hlen : len ≤ 1024)
    (hq : ∀ wx, Below w.heap.size w wx → ∀ k : Nat, k < len → ∃ b off, ad = some ⟨b, off, none⟩ ∧ ∃ h wb l dev st fn num sys ad' len' cap' bs, BlkAt wx b (off + k * 9) h wb l dev st fn num sys ad' len' cap' bs) :
    Calls Ybaf.prog 5 #[.int .i64 r0, .int .i64 ret, .bool false, .bool false, .bool true, .slice ad len cap] w fun e w' => e = .returned (.bool true) ∧ Below w.heap.size w w' := by
  have d1 : decide (1024 < (len : Int)) = false := by simp; omega
  have nn := neq_nil31
  have nn5 := neq_nil45
  obtain ⟨i0, hi, hz0, hz1, hz2⟩ := info_parts info51
  obtain ⟨w0, hrun, hown0, hgr0⟩ := run_make_own (P := Ybaf.prog) w w.heap.size 45 51 i0 _ 9 Ybaf.underlying45 hi hz0 hz1 .i64 .i64 len (by rw [hz2]; omega) (small_max _ (by omega)) (Nat.le_refl _)
  have hb0 : Below w.heap.size w w0 := (Below.refl _ _).grown hgr0 (Nat.le_refl _) (fun k hk => by cases hk)
  have HO : Hid (w0.ownsRow w.heap.size 51 9 (.slice (some ⟨w.heap.size, 0, none⟩) 0 len) 0 []) := hown0
  have HB : Hid (Below w.heap.size w w0) := hb0
  have HQ : Hid (∀ wx, Below w.heap.size w wx → ∀ k : Nat, k < len → ∃ b off, ad = some ⟨b, off, none⟩ ∧ ∃ h wb l dev st fn num sys ad' len' cap' bs, BlkAt wx b (off + k * 9) h wb l dev st fn num sys ad' len' cap' bs) := hq
  clear hown0 hgr0 hb0 hq
  go_enter Ybaf.func5, Ybaf.ntmps5
  go_wp2_with fail
  go_loopw [13, 31] (fun v i wr => ∃ k : Nat, k ≤ len ∧ i = .int .i64 k ∧ (∃ xs, wr.ownsRow w.heap.size 51 9 v k xs) ∧ Below w.heap.size w wr) (fun _ i _ => len - (intOf i).toNat)
  case atStart => exact ⟨0, Nat.zero_le _, rfl, ⟨[], HO.out⟩, HB.out⟩
  case round =>
    obtain ⟨k, hk, rfl, ⟨xs, hown⟩, hbel⟩ := hrel
    have HW : Hid (wr.ownsRow w.heap.size 51 9 u13 k xs) := hown
    have HBW : Hid (Below w.heap.size w wr) := hbel
    clear hown hbel HO HB hrun
    by_cases hlt : k < len
    · obtain ⟨b, off, hbd, h, wb, l, dev, st, fn, num, sys, ad', len', cap', bs, hblk⟩ := HQ.out wr HBW.out k hlt
      subst hbd
      have c0 := hblk.c0
      have c1 := hblk.c1
      have c2 := hblk.c2
      have c3 := hblk.c3
      have c4 := hblk.c4
      have c5 := hblk.c5
      have c6 := hblk.c6
      have c7 := hblk.c7
      have c8 := hblk.c8
      have HBK : Hid (BlkAt wr b (off + k * 9) h wb l dev st fn num sys ad' len' cap' bs) := hblk
      clear hblk HQ
      go_wp2_with fail
      refine (block_any h wb l dev st fn num sys ad' len' cap' bs wr HBK.out.hlen HBK.out.body).mono ?_
      rintro e w1 ⟨rfl, hsz1, hheap, hbel1⟩
      have HW1 : Hid (w1.ownsRow w.heap.size 51 9 u13 k xs) := HW.out.kept (grown_of_below hbel1) (by cases u13.ownBlock <;> simp)
      have HB1 : Hid (Below w.heap.size w w1) := HBW.out.trans (hbel1.mono HBW.out.size)
      have hsw : w.heap.size ≤ w1.heap.size := HB1.out.size
      clear c0 c1 c2 c3 c4 c5 c6 c7 c8 hheap hbel1 hsz1 HBK
      unfold hd
      go_wp2_with (at_builtin; refine wpList_append_own _ rfl (.tmp 34) (.tmp 40) 45 rfl w.heap.size 51 i0 _ 9 40 Ybaf.underlying45 hi hz0 hz1 hz2 rfl (by decide) _ _ _ rfl (HW1.out.alloc _) ⟨w1.heap.size, 0, none⟩ 1 1 (hd h wb l dev st fn num sys _).toList rfl rfl (news_arr _ _ _ _ rfl) (hd_one _ _ _ _ _ _ _ _ _ _ _) (small_max _ (by omega)) (by omega) (by simp; omega) ?_)
      intro v2 w2 hown2 hgrow2 _
      have HW2 : Hid (∃ ys, w2.ownsRow w.heap.size 51 9 v2 (k + 1) ys) := ⟨_, hown2⟩
      have HB2 : Hid (Below w.heap.size w w2) := (HB1.out.alloc hsw _).grown hgrow2 (by simp; omega) (own_ge HW1.out)
      clear hown2 hgrow2
      go_wp2_with fail
      go_roundw
      case rel => exact ⟨k + 1, by omega, by go_num, HW2.out, HB2.out⟩
      case measure => simp [intOf]; omega
    · have hwr : wr.heap.size = wr.heap.size := rfl
      have hbwr := HBW.out
      have hws := HBW.out.size
      obtain ⟨qa, qn, qc, hu⟩ := own_shape HW.out
      subst hu
      clear HW HBW HQ hi hz0 hz1 hz2
      have HX := factsN wr (wr.heap.size) (.slice qa qn qc) r0 (.func (Fn.func 11) #[] #[.pointer (some ⟨wr.heap.size + 1, 0, none⟩)]) (.func (Fn.func 12) #[] #[.pointer (some ⟨wr.heap.size + 1 + 1, 0, none⟩)]) hwr
      have HBW : Hid (Below w.heap.size w (endN wr (wr.heap.size) (.slice qa qn qc) r0 (.func (Fn.func 11) #[] #[.pointer (some ⟨wr.heap.size + 1, 0, none⟩)]) (.func (Fn.func 12) #[] #[.pointer (some ⟨wr.heap.size + 1 + 1, 0, none⟩)]))) := belowN w wr (wr.heap.size) (.slice qa qn qc) r0 (.func (Fn.func 11) #[] #[.pointer (some ⟨wr.heap.size + 1, 0, none⟩)]) (.func (Fn.func 12) #[] #[.pointer (some ⟨wr.heap.size + 1 + 1, 0, none⟩)]) hwr hbwr
      go_wp2_with fail
      refine (ended_fcn (wr.heap.size) w.heap.size (wr.heap.size + 1 + 1) _ r0 ret _ (endN wr (wr.heap.size) (.slice qa qn qc) r0 (.func (Fn.func 11) #[] #[.pointer (some ⟨wr.heap.size + 1, 0, none⟩)]) (.func (Fn.func 12) #[] #[.pointer (some ⟨wr.heap.size + 1 + 1, 0, none⟩)])) (by omega) HX.r HX.zr HX.q HX.zq HX.f HX.u HX.l HX.zl (by omega) (by omega)).mono ?_
      rintro e w2 ⟨rfl, h24, h23, hO, hbut⟩
      have HBF : Hid (Below w.heap.size w w2) := HBW.out.trans hbut.below
      have hsW := HX.size
      have x0 := (hbut.cell ⟨wr.heap.size + 1 + 1 + 1, 0, none⟩ (World.block_lt_of_cell? _ _ HX.e0) (by simp)).trans HX.e0
      have x1 := (hbut.cell ⟨wr.heap.size + 1 + 1 + 1, 1, none⟩ (World.block_lt_of_cell? _ _ HX.e1) (by simp)).trans HX.e1
      have x2 := (hbut.cell ⟨wr.heap.size + 1 + 1 + 1, 2, none⟩ (World.block_lt_of_cell? _ _ HX.e2) (by simp)).trans HX.e2
      have xo := (hbut.cell ⟨wr.heap.size, 12, none⟩ (World.block_lt_of_cell? _ _ HX.o) (by simp)).trans HX.o
      have xk := (hbut.cell ⟨wr.heap.size + 1, 0, none⟩ (World.block_lt_of_cell? _ _ HX.k) (by simp)).trans HX.k
      obtain ⟨gO, cO, o1, o2⟩ := hO
      clear hbut HX HBW hsW hbwr
      go_wp2
      go_ret
      exact ⟨rfl, HBF.out⟩

set_option maxHeartbeats 4000000 in
set_option maxRecDepth 100000 in
theorem end_fnu (r0 ret : Int) (ad : Option Addr) (len cap : Nat) (w : World) (hlen : len ≤ 1024)
    (hq : ∀ wx, Below w.heap.size w wx → ∀ k : Nat, k < len → ∃ b off, ad = some ⟨b, off, none⟩ ∧ ∃ h wb l dev st fn num sys ad' len' cap' bs, BlkAt wx b (off + k * 9) h wb l dev st fn num sys ad' len' cap' bs) :
    Calls Ybaf.prog 5 #[.int .i64 r0, .int .i64 ret, .bool false, .bool true, .bool false, .slice ad len cap] w fun e w' => e = .returned (.bool true) ∧ Below w.heap.size w w' := by
  have d1 : decide (1024 < (len : Int)) = false := by simp; omega
  have nn := neq_nil31
  have nn5 := neq_nil45
  obtain ⟨i0, hi, hz0, hz1, hz2⟩ := info_parts info51
  obtain ⟨w0, hrun, hown0, hgr0⟩ := run_make_own (P := Ybaf.prog) w w.heap.size 45 51 i0 _ 9 Ybaf.underlying45 hi hz0 hz1 .i64 .i64 len (by rw [hz2]; omega) (small_max _ (by omega)) (Nat.le_refl _)
  have hb0 : Below w.heap.size w w0 := (Below.refl _ _).grown hgr0 (Nat.le_refl _) (fun k hk => by cases hk)
  have HO : Hid (w0.ownsRow w.heap.size 51 9 (.slice (some ⟨w.heap.size, 0, none⟩) 0 len) 0 []) := hown0
  have HB : Hid (Below w.heap.size w w0) := hb0
  have HQ : Hid (∀ wx, Below w.heap.size w wx → ∀ k : Nat, k < len → ∃ b off, ad = some ⟨b, off, none⟩ ∧ ∃ h wb l dev st fn num sys ad' len' cap' bs, BlkAt wx b (off + k * 9) h wb l dev st fn num sys ad' len' cap' bs) := hq
  clear hown0 hgr0 hb0 hq
  go_enter Ybaf.func5, Ybaf.ntmps5
  go_wp2_with fail
  go_loopw [13, 31] (fun v i wr => ∃ k : Nat, k ≤ len ∧ i = .int .i64 k ∧ (∃ xs, wr.ownsRow w.heap.size 51 9 v k xs) ∧ Below w.heap.size w wr) (fun _ i _ => len - (intOf i).toNat)
  case atStart => exact ⟨0, Nat.zero_le _, rfl, ⟨[], HO.out⟩, HB.out⟩
  case round =>
    obtain ⟨k, hk, rfl, ⟨xs, hown⟩, hbel⟩ := hrel
    have HW : Hid (wr.ownsRow w.heap.size 51 9 u13 k xs) := hown
    have HBW : Hid (Below w.heap.size w wr) := hbel
    clear hown hbel HO HB hrun
    by_cases hlt : k < len
    · obtain ⟨b, off, hbd, h, wb, l, dev, st, fn, num, sys, ad', len', cap', bs, hblk⟩ := HQ.out wr HBW.out k hlt
      subst hbd
      have c0 := hblk.c0
      have c1 := hblk.c1
      have c2 := hblk.c2
      have c3 := hblk.c3
      have c4 := hblk.c4
      have c5 := hblk.c5
      have c6 := hblk.c6
      have c7 := hblk.c7
      have c8 := hblk.c8
      have HBK : Hid (BlkAt wr b (off + k * 9) h wb l dev st fn num sys ad' len' cap' bs) := hblk
      clear hblk HQ
      go_wp2_with fail
      refine (block_any h wb l dev st fn num sys ad' len' cap' bs wr HBK.out.hlen HBK.out.body).mono ?_
      rintro e w1 ⟨rfl, hsz1, hheap, hbel1⟩
      have HW1 : Hid (w1.ownsRow w.heap.size 51 9 u13 k xs) := HW.out.kept (grown_of_below hbel1) (by cases u13.ownBlock <;> simp)
      have HB1 : Hid (Below w.heap.size w w1) := HBW.out.trans (hbel1.mono HBW.out.size)
      have hsw : w.heap.size ≤ w1.heap.size := HB1.out.size
      clear c0 c1 c2 c3 c4 c5 c6 c7 c8 hheap hbel1 hsz1 HBK
      unfold hd
      go_wp2_with (at_builtin; refine wpList_append_own _ rfl (.tmp 34) (.tmp 40) 45 rfl w.heap.size 51 i0 _ 9 40 Ybaf.underlying45 hi hz0 hz1 hz2 rfl (by decide) _ _ _ rfl (HW1.out.alloc _) ⟨w1.heap.size, 0, none⟩ 1 1 (hd h wb l dev st fn num sys _).toList rfl rfl (news_arr _ _ _ _ rfl) (hd_one _ _ _ _ _ _ _ _ _ _ _) (small_max _ (by omega)) (by omega) (by simp; omega) ?_)
      intro v2 w2 hown2 hgrow2 _
      have HW2 : Hid (∃ ys, w2.ownsRow w.heap.size 51 9 v2 (k + 1) ys) := ⟨_, hown2⟩
      have HB2 : Hid (Below w.heap.size w w2) := (HB1.out.alloc hsw _).grown hgrow2 (by simp; omega) (own_ge HW1.out)
      clear hown2 hgrow2
      go_wp2_with fail
      go_roundw
      case rel => exact ⟨k + 1, by omega, by go_num, HW2.out, HB2.out⟩
      case measure => simp [intOf]; omega
    · have hwr : wr.heap.size = wr.heap.size := rfl
      have hbwr := HBW.out
      have hws := HBW.out.size
      obtain ⟨qa, qn, qc, hu⟩ := own_shape HW.out
      subst hu
      clear HW HBW HQ hi hz0 hz1 hz2
      have HX := factsU wr (wr.heap.size) (.slice qa qn qc) r0 .nilFunc .nilFunc hwr
      have HBW : Hid (Below w.heap.size w (endU wr (wr.heap.size) (.slice qa qn qc) r0 .nilFunc .nilFunc)) := belowU w wr (wr.heap.size) (.slice qa qn qc) r0 .nilFunc .nilFunc hwr hbwr
      go_wp2_with fail
      refine (ended_fnu (wr.heap.size) w.heap.size (wr.heap.size + 1 + 1 + 1) _ r0 ret _ (endU wr (wr.heap.size) (.slice qa qn qc) r0 .nilFunc .nilFunc) (by omega) HX.r HX.zr HX.q HX.zq HX.f HX.u HX.u0 HX.u1 HX.z0 HX.z1 (by omega) (by omega)).mono ?_
      rintro e w2 ⟨rfl, h24, h23, hU0, hU1, hbut⟩
      have HBF : Hid (Below w.heap.size w w2) := HBW.out.trans hbut.below
      have hsW := HX.size
      have x0 := (hbut.cell ⟨wr.heap.size + 1 + 1 + 1 + 1, 0, none⟩ (World.block_lt_of_cell? _ _ HX.e0) (by simp)).trans HX.e0
      have x1 := (hbut.cell ⟨wr.heap.size + 1 + 1 + 1 + 1, 1, none⟩ (World.block_lt_of_cell? _ _ HX.e1) (by simp)).trans HX.e1
      have x2 := (hbut.cell ⟨wr.heap.size + 1 + 1 + 1 + 1, 2, none⟩ (World.block_lt_of_cell? _ _ HX.e2) (by simp)).trans HX.e2
      have xo := (hbut.cell ⟨wr.heap.size, 12, none⟩ (World.block_lt_of_cell? _ _ HX.o) (by simp)).trans HX.o
      have xk := (hbut.cell ⟨wr.heap.size + 1, 0, none⟩ (World.block_lt_of_cell? _ _ HX.k) (by simp)).trans HX.k
      have xl := (hbut.cell ⟨wr.heap.size + 1 + 1, 0, none⟩ (World.block_lt_of_cell? _ _ HX.l) (by simp)).trans HX.l
      have xu := (hbut.cell ⟨wr.heap.size + 1 + 1 + 1, 2, none⟩ (World.block_lt_of_cell? _ _ HX.u2) (by simp)).trans HX.u2
      obtain ⟨g0, c0, p1, p2⟩ := hU0
      obtain ⟨g1, c1, q1, q2⟩ := hU1
      clear hbut HX HBW hsW hbwr
      go_wp2
      go_ret
      exact ⟨rfl, HBF.out⟩

set_option maxHeartbeats 4000000 in
set_option maxRecDepth 100000 in
theorem end_fnn (r0 ret : Int) (ad : Option Addr) (len cap : Nat) (w : World) (hlen : len ≤ 1024)
    (hq : ∀ wx, Below w.heap.size w wx → ∀ k : Nat, k < len → ∃ b off, ad = some ⟨b, off, none⟩ ∧ ∃ h wb l dev st fn num sys ad' len' cap' bs, BlkAt wx b (off + k * 9) h wb l dev st fn num sys ad' len' cap' bs) :
    Calls Ybaf.prog 5 #[.int .i64 r0, .int .i64 ret, .bool false, .bool false, .bool false, .slice ad len cap] w fun e w' => e = .returned (.bool true) ∧ Below w.heap.size w w' := by
  have d1 : decide (1024 < (len : Int)) = false := by simp; omega
  have nn := neq_nil31
  have nn5 := neq_nil45
  obtain ⟨i0, hi, hz0, hz1, hz2⟩ := info_parts info51
  obtain ⟨w0, hrun, hown0, hgr0⟩ := run_make_own (P := Ybaf.prog) w w.heap.size 45 51 i0 _ 9 Ybaf.underlying45 hi hz0 hz1 .i64 .i64 len (by rw [hz2]; omega) (small_max _ (by omega)) (Nat.le_refl _)
  have hb0 : Below w.heap.size w w0 := (Below.refl _ _).grown hgr0 (Nat.le_refl _) (fun k hk => by cases hk)
  have HO : Hid (w0.ownsRow w.heap.size 51 9 (.slice (some ⟨w.heap.size, 0, none⟩) 0 len) 0 []) := hown0
  have HB : Hid (Below w.heap.size w w0) := hb0
  have HQ : Hid (∀ wx, Below w.heap.size w wx → ∀ k : Nat, k < len → ∃ b off, ad = some ⟨b, off, none⟩ ∧ ∃ h wb l dev st fn num sys ad' len' cap' bs, BlkAt wx b (off + k * 9) h wb l dev st fn num sys ad' len' cap' bs) := hq
  clear hown0 hgr0 hb0 hq
  go_enter Ybaf.func5, Ybaf.ntmps5
  go_wp2_with fail
  go_loopw [13, 31] (fun v i wr => ∃ k : Nat, k ≤ len ∧ i = .int .i64 k ∧ (∃ xs, wr.ownsRow w.heap.size 51 9 v k xs) ∧ Below w.heap.size w wr) (fun _ i _ => len - (intOf i).toNat)
  case atStart => exact ⟨0, Nat.zero_le _, rfl, ⟨[], HO.out⟩, HB.out⟩
  case round =>
    obtain ⟨k, hk, rfl, ⟨xs, hown⟩, hbel⟩ := hrel
    have HW : Hid (wr.ownsRow w.heap.size 51 9 u13 k xs) := hown
    have HBW : Hid (Below w.heap.size w wr) := hbel
    clear hown hbel HO HB hrun
    by_cases hlt : k < len
    · obtain ⟨b, off, hbd, h, wb, l, dev, st, fn, num, sys, ad', len', cap', bs, hblk⟩ := HQ.out wr HBW.out k hlt
      subst hbd
      have c0 := hblk.c0
      have c1 := hblk.c1
      have c2 := hblk.c2
      have c3 := hblk.c3
      have c4 := hblk.c4
      have c5 := hblk.c5
      have c6 := hblk.c6
      have c7 := hblk.c7
      have c8 := hblk.c8
      have HBK : Hid (BlkAt wr b (off + k * 9) h wb l dev st fn num sys ad' len' cap' bs) := hblk
      clear hblk HQ
      go_wp2_with fail
      refine (block_any h wb l dev st fn num sys ad' len' cap' bs wr HBK.out.hlen HBK.out.body).mono ?_
      rintro e w1 ⟨rfl, hsz1, hheap, hbel1⟩
      have HW1 : Hid (w1.ownsRow w.heap.size 51 9 u13 k xs) := HW.out.kept (grown_of_below hbel1) (by cases u13.ownBlock <;> simp)
      have HB1 : Hid (Below w.heap.size w w1) := HBW.out.trans (hbel1.mono HBW.out.size)
      have hsw : w.heap.size ≤ w1.heap.size := HB1.out.size
      clear c0 c1 c2 c3 c4 c5 c6 c7 c8 hheap hbel1 hsz1 HBK
      unfold hd
      go_wp2_with (at_builtin; refine wpList_append_own _ rfl (.tmp 34) (.tmp 40) 45 rfl w.heap.size 51 i0 _ 9 40 Ybaf.underlying45 hi hz0 hz1 hz2 rfl (by decide) _ _ _ rfl (HW1.out.alloc _) ⟨w1.heap.size, 0, none⟩ 1 1 (hd h wb l dev st fn num sys _).toList rfl rfl (news_arr _ _ _ _ rfl) (hd_one _ _ _ _ _ _ _ _ _ _ _) (small_max _ (by omega)) (by omega) (by simp; omega) ?_)
      intro v2 w2 hown2 hgrow2 _
      have HW2 : Hid (∃ ys, w2.ownsRow w.heap.size 51 9 v2 (k + 1) ys) := ⟨_, hown2⟩
      have HB2 : Hid (Below w.heap.size w w2) := (HB1.out.alloc hsw _).grown hgrow2 (by simp; omega) (own_ge HW1.out)
      clear hown2 hgrow2
      go_wp2_with fail
      go_roundw
      case rel => exact ⟨k + 1, by omega, by go_num, HW2.out, HB2.out⟩
      case measure => simp [intOf]; omega
    · have hwr : wr.heap.size = wr.heap.size := rfl
      have hbwr := HBW.out
      have hws := HBW.out.size
      obtain ⟨qa, qn, qc, hu⟩ := own_shape HW.out
      subst hu
      clear HW HBW HQ hi hz0 hz1 hz2
      have HX := factsN wr (wr.heap.size) (.slice qa qn qc) r0 .nilFunc .nilFunc hwr
      have HBW : Hid (Below w.heap.size w (endN wr (wr.heap.size) (.slice qa qn qc) r0 .nilFunc .nilFunc)) := belowN w wr (wr.heap.size) (.slice qa qn qc) r0 .nilFunc .nilFunc hwr hbwr
      go_wp2_with fail
      refine (ended_fnn (wr.heap.size) w.heap.size _ r0 ret _ (endN wr (wr.heap.size) (.slice qa qn qc) r0 .nilFunc .nilFunc) (by omega) HX.r HX.zr HX.q HX.zq HX.f HX.u).mono ?_
      rintro e w2 ⟨rfl, h24, h23, hbut⟩
      have HBF : Hid (Below w.heap.size w w2) := HBW.out.trans hbut.below
      have hsW := HX.size
      have x0 := (hbut.cell ⟨wr.heap.size + 1 + 1 + 1, 0, none⟩ (World.block_lt_of_cell? _ _ HX.e0) (by simp)).trans HX.e0
      have x1 := (hbut.cell ⟨wr.heap.size + 1 + 1 + 1, 1, none⟩ (World.block_lt_of_cell? _ _ HX.e1) (by simp)).trans HX.e1
      have x2 := (hbut.cell ⟨wr.heap.size + 1 + 1 + 1, 2, none⟩ (World.block_lt_of_cell? _ _ HX.e2) (by simp)).trans HX.e2
      have xo := (hbut.cell ⟨wr.heap.size, 12, none⟩ (World.block_lt_of_cell? _ _ HX.o) (by simp)).trans HX.o
      have xk := (hbut.cell ⟨wr.heap.size + 1, 0, none⟩ (World.block_lt_of_cell? _ _ HX.k) (by simp)).trans HX.k
      have xl := (hbut.cell ⟨wr.heap.size + 1 + 1, 0, none⟩ (World.block_lt_of_cell? _ _ HX.l) (by simp)).trans HX.l
      clear hbut HX HBW hsW hbwr
      go_wp2
      go_ret
      exact ⟨rfl, HBF.out⟩

end Go.Proofs.YbulkaqtiFmt
