/-
  LawS2114CNext: THE LAW's WALK.
-/
import Derived.Test.YbulkaqtiFmtDat
namespace Go.Proofs.YbulkaqtiFmt
open Go.RowKit
set_option linter.unusedVariables false

/-- the queue's row in the loop -/
def Rel (B1 : Nat) (w3 : World) (d : Dat) (f : Nat → Dat) (k : Nat) (v : Value) (wr : World) : Prop :=
  ∃ xs, wr.ownsRow B1 51 9 v (k + 1) xs ∧ Below B1 w3 wr ∧ Elem wr xs 0 d ∧ ∀ j, j < k → Elem wr xs (j + 1) (f j)

theorem own_ne51 {w : World} {B n h : Nat} {sv : Value} {xs : List Value} (hown : w.ownsRow B 51 9 sv n xs) (ht : ∀ c fr, w.heap[h]? ≠ some (.cells c 51 fr)) : some h ≠ sv.ownBlock := by
  obtain ⟨_, hc⟩ := hown
  rcases hc with ⟨rfl, _⟩ | ⟨g, cap, cur, rfl, hg, hh, _⟩
  · intro e; cases e
  · intro e; simp [Value.ownBlock] at e; subst e; exact ht _ _ hh
theorem own_cap {w : World} {B n G c : Nat} {xs : List Value} (hown : w.ownsRow B 51 9 (.slice (some ⟨G, 0, none⟩) n c) n xs) : n ≤ c := by
  rcases hown.2 with ⟨e, _⟩ | ⟨_, _, _, e, _, _, hc, _⟩
  · simp at e
  · simp only [Value.slice.injEq] at e; omega
theorem below_drewN {B n : Nat} {a w : World} (h : Below B a w) : Below B a (w.drewN n) := by
  induction n with
  | zero => exact h
  | succ n ih => exact ⟨ih.os, ih.tape, ih.output, ih.size, ih.block⟩
theorem Rel.start {B1 g : Nat} {w4 w5 : World} {d : Dat} {f : Nat → Dat} {v : Value} (hown : w5.ownsRow B1 51 9 v 1 (d.cells g)) (hb : Below B1 w4 w5) (hg : w5.heap[g]? = some (.cells (byts d.bs d.nb).toArray 5 (0, 0))) : Rel B1 w4 d f 0 v w5 :=
  ⟨d.cells g, hown, hb, ⟨g, fun i hi => by rw [Nat.zero_mul, Nat.zero_add], hg⟩, fun j hj => absurd hj (Nat.not_lt_zero _)⟩
theorem Rel.step {B1 k g : Nat} {w4 wr w1 w2 : World} {d : Dat} {f : Nat → Dat} {v v2 : Value} {xs : List Value} {o : Obj} (hown : wr.ownsRow B1 51 9 v (k + 1) xs) (hbel : Below B1 w4 wr) (e0 : Elem wr xs 0 d) (ek : ∀ j, j < k → Elem wr xs (j + 1) (f j)) (hB : B1 ≤ w4.heap.size)
    (hb1 : Below wr.heap.size wr w1) (hg : w1.heap[g]? = some (.cells (byts (f k).bs (f k).nb).toArray 5 (0, 0))) (hgrow : (w1.alloc o).grownBy w2 v.ownBlock) (hown2 : w2.ownsRow B1 51 9 v2 (k + 1 + 1) (xs ++ (f k).cells g)) : Rel B1 w4 d f (k + 1) v2 w2 := by
  have hl : xs.length = (k + 1) * 9 := hown.1
  have hown1 : w1.ownsRow B1 51 9 v (k + 1) xs := hown.kept (grown_of_below hb1) (by cases v.ownBlock <;> simp)
  have hs1 := hb1.size
  have hs4 := hbel.size
  have hk : ∀ h, h < w1.heap.size → (∀ c fr, w1.heap[h]? ≠ some (.cells c 51 fr)) → w2.heap[h]? = w1.heap[h]? := fun h hh ht =>
    (hgrow.block h (by simp; omega) (own_ne51 hown1 ht)).trans (Below.heap_alloc _ _ _ hh)
  refine ⟨_, hown2, ?_, (e0.kept hb1).grow (by omega) hk, fun j hj => ?_⟩
  · exact (hbel.trans (((hb1.mono (by omega)).alloc (by omega) _).grown hgrow (by simp; omega) (own_ge hown1)))
  · rcases Nat.lt_or_ge j k with hj' | hj'
    · exact ((ek j hj').kept hb1).grow (by omega) hk
    · obtain rfl : j = k := by omega
      refine Elem.new hl ?_
      rw [hk g (lt_of_heap hg) (by rw [hg]; intro c fr e; simp at e)]
      exact hg

set_option maxHeartbeats 8000000 in
set_option maxRecDepth 100000 in
theorem next_u (r0 ret : Int) (d : Dat) (ad : Option Addr) (len cap : Nat) (f : Nat → Dat) (w : World) (hlen : len ≤ 1024) (hfn : 0 ≤ d.fn ∧ d.fn ≤ 255) (hsy : 0 ≤ d.sys ∧ d.sys ≤ 4294967295) (hdl : d.len ≤ maxLen)
    (hdb : 0 < d.len → ∃ a, d.ad = some a ∧ ∀ j, j < d.len → w.cell? (a.add j) = some (.int .u8 (d.bs j)))
    (hq : ∀ k, k < len → ∃ b off, ad = some ⟨b, off, none⟩ ∧ DatAt w b (off + k * 9) (f k)) :
    Calls Ybaf.prog 6 #[.int .i64 r0, .int .i64 ret, .bool true, .agg #[.bool d.h, .bool d.wb, .bool d.l, .int .u16 d.dev, .int .u8 d.st, .int .u8 d.fn, .int .u16 d.num, .int .u32 d.sys, .slice d.ad d.len d.cap], .slice ad len cap] w fun e w' => e = .returned (.bool true) ∧ Below w.heap.size w w' := by
  have d1 : decide (1024 < (len : Int)) = false := by simp; omega
  have HQ : Hid (∀ k, k < len → ∃ b off, ad = some ⟨b, off, none⟩ ∧ DatAt w b (off + k * 9) (f k)) := hq
  have hbB : Below w.heap.size w (w.alloc (.cells #[.bool d.h, .bool d.wb, .bool d.l, .int .u16 d.dev, .int .u8 d.st, .int .u8 d.fn, .int .u16 d.num, .int .u32 d.sys, .slice d.ad d.len d.cap] 54)) := (Below.refl _ _).alloc (Nat.le_refl _) _
  have HC := block_dat d (w.alloc (.cells #[.bool d.h, .bool d.wb, .bool d.l, .int .u16 d.dev, .int .u8 d.st, .int .u8 d.fn, .int .u16 d.num, .int .u32 d.sys, .slice d.ad d.len d.cap] 54)) hdl (fun h0 => by obtain ⟨a, ha, hc⟩ := hdb h0; exact ⟨a, ha, fun j hj => later hbB (hc j hj)⟩)
  clear hq hdb
  go_enter Ybaf.func6, Ybaf.ntmps6
  go_wp2_with fail
  refine HC.mono ?_
  rintro e w2 ⟨rfl, hsz2, hh2, hb2⟩
  have HB2 : Hid (Below w.heap.size w w2) := hbB.trans (hb2.mono (by simp))
  have hh2' : w2.heap[w.heap.size + 1 + 1 + 1]? = some (.cells (byts d.bs d.nb).toArray 5 (0, 0)) := by simpa using hh2
  have HH2 : Hid (w2.heap[w.heap.size + 1 + 1 + 1]? = some (.cells (byts d.bs d.nb).toArray 5 (0, 0))) := hh2'
  have hs2 : w.heap.size ≤ w2.heap.size := HB2.out.size
  have hg2 : w.heap.size + 1 + 1 + 1 < w2.heap.size := lt_of_heap hh2'
  clear HC hbB hb2 hh2 hh2' hsz2
  obtain ⟨nine, hnine⟩ : ∃ nine : Array Value, nine = #[.bool d.h, .int .u16 d.D, .bool d.wb, .int .u8 d.S, .int .u8 d.fn, .bool d.l, .int .u16 d.N, .int .u32 d.sys, .slice (some ⟨w.heap.size + 1 + 1 + 1, 0, none⟩) d.nb d.nb] := ⟨_, rfl⟩
  obtain ⟨i0, hi, hz0, hz1, hz2⟩ := info_parts info51
  obtain ⟨w4, hrun, hown4, hgr4⟩ := run_make_own (P := Ybaf.prog) (w2.alloc (.cells nine 51)) (w2.heap.size + 1) 45 51 i0 _ 9 Ybaf.underlying45 hi hz0 hz1 .i64 .i64 (1 + len) (by rw [hz2]; omega) (small_max _ (by omega)) (by simp)
  rw [show ((1 + len : Nat) : Int) = 1 + (len : Int) by omega] at hrun
  rw [show (w2.alloc (.cells nine 51)).heap.size = w2.heap.size + 1 by simp] at hrun hown4
  have hb4 : Below (w2.heap.size + 1) (w2.alloc (.cells nine 51)) w4 := (Below.refl _ _).grown hgr4 (by simp) (fun k hk => by cases hk)
  have hF4 : w4.heap[w2.heap.size]? = some (.cells nine 51 (0, 0)) := (hb4.block _ (by omega)).trans (heap_top _ _ _ rfl)
  have HH4 : Hid (w4.heap[w.heap.size + 1 + 1 + 1]? = some (.cells (byts d.bs d.nb).toArray 5 (0, 0))) := ((hb4.block _ (by omega)).trans (Below.heap_alloc _ _ _ hg2)).trans HH2.out
  have HB4 : Hid (Below w.heap.size w w4) := (HB2.out.alloc hs2 _).trans (hb4.mono (by omega))
  have hs4 : w2.heap.size + 1 ≤ w4.heap.size := by have := hb4.size; simpa using this
  subst hnine
  have c0 := cell_heap hF4 0 (.bool d.h) rfl
  have c1 := cell_heap hF4 1 (.int .u16 d.D) rfl
  have c2 := cell_heap hF4 2 (.bool d.wb) rfl
  have c3 := cell_heap hF4 3 (.int .u8 d.S) rfl
  have c4 := cell_heap hF4 4 (.int .u8 d.fn) rfl
  have c5 := cell_heap hF4 5 (.bool d.l) rfl
  have c6 := cell_heap hF4 6 (.int .u16 d.N) rfl
  have c7 := cell_heap hF4 7 (.int .u32 d.sys) rfl
  have c8 := cell_heap hF4 8 (.slice (some ⟨w.heap.size + 1 + 1 + 1, 0, none⟩) d.nb d.nb) rfl
  have HF4 : Hid (w4.heap[w2.heap.size]? = some (.cells #[.bool d.h, .int .u16 d.D, .bool d.wb, .int .u8 d.S, .int .u8 d.fn, .bool d.l, .int .u16 d.N, .int .u32 d.sys, .slice (some ⟨w.heap.size + 1 + 1 + 1, 0, none⟩) d.nb d.nb] 51 (0, 0))) := hF4
  have HO4 : Hid (w4.ownsRow (w2.heap.size + 1) 51 9 _ 0 []) := hown4
  clear hown4 hgr4 hb4 hF4 HB2 HH2
  go_wp2_with (at_builtin; refine wpList_append_own _ rfl (.tmp 30) (.tmp 32) 45 rfl (w2.heap.size + 1) 51 i0 _ 9 40 Ybaf.underlying45 hi hz0 hz1 hz2 rfl (by decide) _ _ _ rfl (HO4.out.alloc _) ⟨w4.heap.size, 0, none⟩ 1 1 (d.cells (w.heap.size + 1 + 1 + 1)) rfl rfl (news_arr _ _ _ _ rfl) (d.one _) (small_max _ (by omega)) (by omega) (by simp; omega) ?_)
  intro v5 w5 hown5 hgrow5 _
  have hb5 : Below (w2.heap.size + 1) w4 w5 := ((Below.refl _ _).alloc hs4 _).grown hgrow5 (by simp; omega) (own_ge HO4.out)
  have HR5 : Hid (Rel (w2.heap.size + 1) w4 d f 0 v5 w5) := Rel.start hown5 hb5 ((hb5.block _ (by omega)).trans HH4.out)
  clear hown5 hgrow5 hb5 HO4 hrun c0 c1 c2 c3 c4 c5 c6 c7 c8 HH4
  go_wp2_with fail
  go_loopw [12, 36] (fun v i wr => ∃ k : Nat, k ≤ len ∧ i = .int .i64 k ∧ Rel (w2.heap.size + 1) w4 d f k v wr) (fun _ i _ => len - (intOf i).toNat)
  case atStart => exact ⟨0, Nat.zero_le _, rfl, HR5.out⟩
  case round =>
    obtain ⟨k, hk, rfl, xs, hown, hbel, he0, hek⟩ := hrel
    have HW : Hid (wr.ownsRow (w2.heap.size + 1) 51 9 u12 (k + 1) xs) := hown
    have HBR : Hid (Below (w2.heap.size + 1) w4 wr) := hbel
    have HE0 : Hid (Elem wr xs 0 d) := he0
    have HEK : Hid (∀ j, j < k → Elem wr xs (j + 1) (f j)) := hek
    have HBW : Hid (Below w.heap.size w wr) := HB4.out.trans (hbel.mono (by omega))
    have hswr : w4.heap.size ≤ wr.heap.size := hbel.size
    clear hown hbel he0 hek HR5
    by_cases hlt : k < len
    · obtain ⟨b, off, hbd, hblk⟩ := HQ.out k hlt
      subst hbd
      have hblk := BlkAt.below hblk HBW.out
      have c0 := hblk.c0
      have c1 := hblk.c1
      have c2 := hblk.c2
      have c3 := hblk.c3
      have c4 := hblk.c4
      have c5 := hblk.c5
      have c6 := hblk.c6
      have c7 := hblk.c7
      have c8 := hblk.c8
      have HC := block_dat (f k) wr hblk.hlen hblk.body
      clear hblk HQ
      go_wp2_with fail
      refine HC.mono ?_
      rintro e w6 ⟨rfl, hsz6, hheap6, hbel6⟩
      have HW6 : Hid (w6.ownsRow (w2.heap.size + 1) 51 9 u12 (k + 1) xs) := HW.out.kept (grown_of_below hbel6) (by cases u12.ownBlock <;> simp)
      have hsw6 : wr.heap.size ≤ w6.heap.size := hbel6.size
      have HB6 : Hid (Below wr.heap.size wr w6) := hbel6
      have HG6 : Hid (w6.heap[wr.heap.size + 1 + 1]? = some (.cells (byts (f k).bs (f k).nb).toArray 5 (0, 0))) := hheap6
      clear c0 c1 c2 c3 c4 c5 c6 c7 c8 hheap6 hbel6 hsz6 HC
      go_wp2_with (at_builtin; refine wpList_append_own _ rfl (.tmp 39) (.tmp 45) 45 rfl (w2.heap.size + 1) 51 i0 _ 9 40 Ybaf.underlying45 hi hz0 hz1 hz2 rfl (by decide) _ _ _ rfl (HW6.out.alloc _) ⟨w6.heap.size, 0, none⟩ 1 1 ((f k).cells (wr.heap.size + 1 + 1)) rfl rfl (news_arr _ _ _ _ rfl) ((f k).one _) (small_max _ (by omega)) (by omega) (by simp; omega) ?_)
      intro v7 w7 hown7 hgrow7 _
      have HR7 : Hid (Rel (w2.heap.size + 1) w4 d f (k + 1) v7 w7) := Rel.step HW.out HBR.out HE0.out HEK.out hs4 HB6.out HG6.out hgrow7 hown7
      clear hown7 hgrow7
      go_wp2_with fail
      go_roundw
      case rel => exact ⟨k + 1, by omega, by go_num, HR7.out⟩
      case measure => simp [intOf]; omega
    · obtain rfl : k = len := by omega
      obtain ⟨Q, cq, hu, hQB, hQs⟩ := HW.out.form (by omega)
      subst hu
      have hcq : k + 1 ≤ cq := own_cap HW.out
      clear hi hz0 hz1 hz2
      have hwr : wr.heap.size = wr.heap.size := rfl
      have HX := factsNextU wr wr.heap.size (.slice (some ⟨Q, 0, none⟩) (k + 1) cq) r0 hwr
      have hbX := belowNextU wr wr.heap.size (.slice (some ⟨Q, 0, none⟩) (k + 1) cq) r0 hwr
      obtain ⟨hu0, hu2⟩ := nextU_up wr wr.heap.size (.slice (some ⟨Q, 0, none⟩) (k + 1) cq) r0 hwr
      obtain ⟨g, hnine0, hgh⟩ := HE0.out.nine HW.out (by omega)
      have hglt := lt_of_heap hgh
      have HC := ended_q wr.heap.size (wr.heap.size + 1 + 1 + 1) wr.heap.size Q k cq r0 ret d.h d.wb d.l d.D d.S d.fn d.N d.sys g d.nb d.bs (nextU wr wr.heap.size (.slice (some ⟨Q, 0, none⟩) (k + 1) cq) r0) (Nat.le_refl _) (by omega) (by omega) (by omega) (by omega) hcq HX.r HX.zr HX.q HX.zq (hnine0.later hbX) HX.c2 HX.c9 HX.z9 HX.c12 HX.z12 HX.c13 HX.z13 HX.c14 HX.z14 HX.e0 HX.e1 HX.y0 HX.y1 d.nb_le ((hbX.block g hglt).trans hgh) d.bD d.bS hfn d.bN hsy
      clear hnine0 hgh hglt
      go_wp2_with fail
      refine HC.mono ?_
      rintro e w8 ⟨rfl, x24, ⟨o, c23, x23, hc23, ho⟩, x9, hsent, hstart, ⟨G, cG, hGl, x12, xG⟩, hbut⟩
      have hsX := HX.size
      have xk := (hbut.cell ⟨wr.heap.size + 1, 0, none⟩ (World.block_lt_of_cell? _ _ HX.k) (by simp)).trans HX.k
      have xe2 := (hbut.cell ⟨wr.heap.size + 1 + 1 + 1, 2, none⟩ (World.block_lt_of_cell? _ _ HX.e2) (by simp)).trans HX.e2
      have xu0 := (hbut.cell ⟨wr.heap.size + 1 + 1, 0, none⟩ (World.block_lt_of_cell? _ _ hu0) (by simp)).trans hu0
      have xu2 := (hbut.cell ⟨wr.heap.size + 1 + 1, 2, none⟩ (World.block_lt_of_cell? _ _ hu2) (by simp)).trans hu2
      have hb8 : Below wr.heap.size wr w8 := hbX.trans hbut.below
      have HREST : Hid (∀ j, j < k → ∃ g, NineAt w8 Q ((j + 1) * 9) (f j).h (f j).wb (f j).l (f j).D (f j).S (f j).fn (f j).N (f j).sys (.slice (some ⟨g, 0, none⟩) (f j).nb (f j).nb) ∧ w8.heap[g]? = some (.cells (byts (f j).bs (f j).nb).toArray 5 (0, 0))) := fun j hj => by
        obtain ⟨g, hn, hh⟩ := (HEK.out j hj).nine HW.out (by omega)
        exact ⟨g, hn.later hb8, (hb8.block g (lt_of_heap hh)).trans hh⟩
      have HF8 : Hid (w8.heap[w2.heap.size]? = some (.cells #[.bool d.h, .int .u16 d.D, .bool d.wb, .int .u8 d.S, .int .u8 d.fn, .bool d.l, .int .u16 d.N, .int .u32 d.sys, .slice (some ⟨w.heap.size + 1 + 1 + 1, 0, none⟩) d.nb d.nb] 51 (0, 0))) := ((hb8.block _ (by omega)).trans (HBR.out.block _ (by omega))).trans HF4.out
      have HB8 : Hid (Below w.heap.size w w8) := HBW.out.trans (hb8.mono HBW.out.size)
      have hs8 : wr.heap.size ≤ w8.heap.size := hb8.size
      obtain ⟨es, ecs, eG, eC, _, _, s1, s2, s3⟩ := hsent
      obtain ⟨et, etc, _, t1, t2⟩ := hstart
      clear hbut HX hbX HEK HE0 HW HBR HF4 HC hb8 hu0 hu2
      go_wp2_with fail
      obtain ⟨wq, hwq⟩ : ∃ wq, wq = wr := ⟨_, rfl⟩
      subst hwq
      go_loopw [113] (fun i wx => ∃ j : Nat, j ≤ k ∧ i = .int .i64 j ∧ Below w8.heap.size w8 wx) (fun i _ => k - (intOf i).toNat)
      case atStart => exact ⟨0, Nat.zero_le _, rfl, Below.refl _ _⟩
      case round =>
        obtain ⟨j, hj, rfl, hbx⟩ := hrel
        have HBX : Hid (Below w8.heap.size w8 wr) := hbx
        have HBWX : Hid (Below w.heap.size w wr) := HB8.out.trans (hbx.mono HB8.out.size)
        have hsx : w8.heap.size ≤ wr.heap.size := hbx.size
        clear hbx
        by_cases hlt : j < k
        · obtain ⟨b, off, hbd, hblk⟩ := HQ.out j hlt
          subst hbd
          obtain rfl : o = 9 := ho (by omega)
          obtain ⟨g, hn, hgh⟩ := HREST.out j hlt
          rw [show (j + 1) * 9 = 9 + j * 9 by omega] at hn
          have hblk := BlkAt.below hblk HBWX.out
          have c0 := hblk.c0
          have c1 := hblk.c1
          have c2 := hblk.c2
          have c3 := hblk.c3
          have c4 := hblk.c4
          have c5 := hblk.c5
          have c6 := hblk.c6
          have c7 := hblk.c7
          have c8 := hblk.c8
          have HC := block_dat (f j) wr hblk.hlen hblk.body
          have HN : Hid (NineAt w8 Q (9 + j * 9) (f j).h (f j).wb (f j).l (f j).D (f j).S (f j).fn (f j).N (f j).sys (.slice (some ⟨g, 0, none⟩) (f j).nb (f j).nb)) := hn
          have HG : Hid (w8.heap[g]? = some (.cells (byts (f j).bs (f j).nb).toArray 5 (0, 0))) := hgh
          have hg8 := lt_of_heap hgh
          have X23 : Hid (w8.cell? ⟨wq.heap.size, 23, none⟩ = some (.slice (some ⟨Q, 9, none⟩) k c23)) := x23
          clear hblk hn hgh x24 x23 x9 x12 xG xk xe2 s1 s2 s3 t1 t2 xu0 xu2
          go_wp2_with fail
          refine HC.mono ?_
          rintro e w9 ⟨rfl, hsz9, hh9, hb9⟩
          have hbx9 : Below w8.heap.size w8 w9 := HBX.out.trans (hb9.mono hsx)
          have hs9 : wr.heap.size ≤ w9.heap.size := hb9.size
          have hsq9 : wq.heap.size < w9.heap.size := World.block_lt_of_cell? _ _ (later hbx9 X23.out)
          have y23 := later hbx9 X23.out
          have nn := HN.out.later hbx9
          have n0 := nn.c0
          have n1 := nn.c1
          have n2 := nn.c2
          have n3 := nn.c3
          have n4 := nn.c4
          have n5 := nn.c5
          have n6 := nn.c6
          have n7 := nn.c7
          have n8 := nn.c8
          have hQ9 : Q < w9.heap.size := World.block_lt_of_cell? _ _ n0
          have hg9 : w9.heap[g]? = some (.cells (byts (f j).bs (f j).nb).toArray 5 (0, 0)) := (hbx9.block g hg8).trans HG.out
          have nh := neq_head (f j).h (f j).wb (f j).l (f j).D (f j).S (f j).fn (f j).N (f j).sys
          have HE := fun (o : Obj) (n : Nat) => equal_any g (wr.heap.size + 1 + 1) (f j).nb (f j).nb (f j).nb (f j).bs ((w9.alloc o).drewN n) (by rw [heap_drewN]; exact (Below.heap_alloc _ _ _ (lt_of_heap hg9)).trans hg9) (by rw [heap_drewN]; exact (Below.heap_alloc _ _ _ (lt_of_heap hh9)).trans hh9)
          have HB9 : Hid (Below w8.heap.size w8 w9) := hbx9
          clear c0 c1 c2 c3 c4 c5 c6 c7 c8 HC hh9 hb9 hsz9 hbx9 nn hg9
          go_wp2_with fail
          go_quiet ((go_at_call 16; exact Calls.quiet_of_same (HE _ _)))
          go_wp2_with fail
          go_roundw
          case rel => exact ⟨j + 1, by omega, by go_num, below_drewN (HB9.out.alloc (by omega) _)⟩
          case measure => simp [intOf]; omega
        · obtain rfl : j = k := by omega
          have hnb := d.nb_le
          have hlt8 := lt_of_heap HF8.out
          have y9 := later HBX.out x9
          have y12 := later HBX.out x12
          have yG := later HBX.out xG
          have ye2 := later HBX.out xe2
          have z1 := later HBX.out s1
          have z2 := later HBX.out s2
          have z3 := later HBX.out s3
          have z4 := later HBX.out t1
          have z5 := later HBX.out t2
          have yF := cell_heap ((HBX.out.block _ hlt8).trans HF8.out) 8 (.slice (some ⟨w.heap.size + 1 + 1 + 1, 0, none⟩) d.nb d.nb) rfl
          clear x24 x23 x9 x12 xG xk xe2 s1 s2 s3 t1 t2 HF8 HREST HB8 xu0 xu2
          go_wp2
          go_ret
          exact ⟨rfl, HBWX.out⟩

set_option maxHeartbeats 8000000 in
set_option maxRecDepth 100000 in
theorem next_n (r0 ret : Int) (d : Dat) (ad : Option Addr) (len cap : Nat) (f : Nat → Dat) (w : World) (hlen : len ≤ 1024) (hfn : 0 ≤ d.fn ∧ d.fn ≤ 255) (hsy : 0 ≤ d.sys ∧ d.sys ≤ 4294967295) (hdl : d.len ≤ maxLen)
    (hdb : 0 < d.len → ∃ a, d.ad = some a ∧ ∀ j, j < d.len → w.cell? (a.add j) = some (.int .u8 (d.bs j)))
    (hq : ∀ k, k < len → ∃ b off, ad = some ⟨b, off, none⟩ ∧ DatAt w b (off + k * 9) (f k)) :
    Calls Ybaf.prog 6 #[.int .i64 r0, .int .i64 ret, .bool false, .agg #[.bool d.h, .bool d.wb, .bool d.l, .int .u16 d.dev, .int .u8 d.st, .int .u8 d.fn, .int .u16 d.num, .int .u32 d.sys, .slice d.ad d.len d.cap], .slice ad len cap] w fun e w' => e = .returned (.bool true) ∧ Below w.heap.size w w' := by
  have d1 : decide (1024 < (len : Int)) = false := by simp; omega
  have HQ : Hid (∀ k, k < len → ∃ b off, ad = some ⟨b, off, none⟩ ∧ DatAt w b (off + k * 9) (f k)) := hq
  have hbB : Below w.heap.size w (w.alloc (.cells #[.bool d.h, .bool d.wb, .bool d.l, .int .u16 d.dev, .int .u8 d.st, .int .u8 d.fn, .int .u16 d.num, .int .u32 d.sys, .slice d.ad d.len d.cap] 54)) := (Below.refl _ _).alloc (Nat.le_refl _) _
  have HC := block_dat d (w.alloc (.cells #[.bool d.h, .bool d.wb, .bool d.l, .int .u16 d.dev, .int .u8 d.st, .int .u8 d.fn, .int .u16 d.num, .int .u32 d.sys, .slice d.ad d.len d.cap] 54)) hdl (fun h0 => by obtain ⟨a, ha, hc⟩ := hdb h0; exact ⟨a, ha, fun j hj => later hbB (hc j hj)⟩)
  clear hq hdb
  go_enter Ybaf.func6, Ybaf.ntmps6
  go_wp2_with fail
  refine HC.mono ?_
  rintro e w2 ⟨rfl, hsz2, hh2, hb2⟩
  have HB2 : Hid (Below w.heap.size w w2) := hbB.trans (hb2.mono (by simp))
  have hh2' : w2.heap[w.heap.size + 1 + 1 + 1]? = some (.cells (byts d.bs d.nb).toArray 5 (0, 0)) := by simpa using hh2
  have HH2 : Hid (w2.heap[w.heap.size + 1 + 1 + 1]? = some (.cells (byts d.bs d.nb).toArray 5 (0, 0))) := hh2'
  have hs2 : w.heap.size ≤ w2.heap.size := HB2.out.size
  have hg2 : w.heap.size + 1 + 1 + 1 < w2.heap.size := lt_of_heap hh2'
  clear HC hbB hb2 hh2 hh2' hsz2
  obtain ⟨nine, hnine⟩ : ∃ nine : Array Value, nine = #[.bool d.h, .int .u16 d.D, .bool d.wb, .int .u8 d.S, .int .u8 d.fn, .bool d.l, .int .u16 d.N, .int .u32 d.sys, .slice (some ⟨w.heap.size + 1 + 1 + 1, 0, none⟩) d.nb d.nb] := ⟨_, rfl⟩
  obtain ⟨i0, hi, hz0, hz1, hz2⟩ := info_parts info51
  obtain ⟨w4, hrun, hown4, hgr4⟩ := run_make_own (P := Ybaf.prog) (w2.alloc (.cells nine 51)) (w2.heap.size + 1) 45 51 i0 _ 9 Ybaf.underlying45 hi hz0 hz1 .i64 .i64 (1 + len) (by rw [hz2]; omega) (small_max _ (by omega)) (by simp)
  rw [show ((1 + len : Nat) : Int) = 1 + (len : Int) by omega] at hrun
  rw [show (w2.alloc (.cells nine 51)).heap.size = w2.heap.size + 1 by simp] at hrun hown4
  have hb4 : Below (w2.heap.size + 1) (w2.alloc (.cells nine 51)) w4 := (Below.refl _ _).grown hgr4 (by simp) (fun k hk => by cases hk)
  have hF4 : w4.heap[w2.heap.size]? = some (.cells nine 51 (0, 0)) := (hb4.block _ (by omega)).trans (heap_top _ _ _ rfl)
  have HH4 : Hid (w4.heap[w.heap.size + 1 + 1 + 1]? = some (.cells (byts d.bs d.nb).toArray 5 (0, 0))) := ((hb4.block _ (by omega)).trans (Below.heap_alloc _ _ _ hg2)).trans HH2.out
  have HB4 : Hid (Below w.heap.size w w4) := (HB2.out.alloc hs2 _).trans (hb4.mono (by omega))
  have hs4 : w2.heap.size + 1 ≤ w4.heap.size := by have := hb4.size; simpa using this
  subst hnine
  have c0 := cell_heap hF4 0 (.bool d.h) rfl
  have c1 := cell_heap hF4 1 (.int .u16 d.D) rfl
  have c2 := cell_heap hF4 2 (.bool d.wb) rfl
  have c3 := cell_heap hF4 3 (.int .u8 d.S) rfl
  have c4 := cell_heap hF4 4 (.int .u8 d.fn) rfl
  have c5 := cell_heap hF4 5 (.bool d.l) rfl
  have c6 := cell_heap hF4 6 (.int .u16 d.N) rfl
  have c7 := cell_heap hF4 7 (.int .u32 d.sys) rfl
  have c8 := cell_heap hF4 8 (.slice (some ⟨w.heap.size + 1 + 1 + 1, 0, none⟩) d.nb d.nb) rfl
  have HF4 : Hid (w4.heap[w2.heap.size]? = some (.cells #[.bool d.h, .int .u16 d.D, .bool d.wb, .int .u8 d.S, .int .u8 d.fn, .bool d.l, .int .u16 d.N, .int .u32 d.sys, .slice (some ⟨w.heap.size + 1 + 1 + 1, 0, none⟩) d.nb d.nb] 51 (0, 0))) := hF4
  have HO4 : Hid (w4.ownsRow (w2.heap.size + 1) 51 9 _ 0 []) := hown4
  clear hown4 hgr4 hb4 hF4 HB2 HH2
  go_wp2_with (at_builtin; refine wpList_append_own _ rfl (.tmp 30) (.tmp 32) 45 rfl (w2.heap.size + 1) 51 i0 _ 9 40 Ybaf.underlying45 hi hz0 hz1 hz2 rfl (by decide) _ _ _ rfl (HO4.out.alloc _) ⟨w4.heap.size, 0, none⟩ 1 1 (d.cells (w.heap.size + 1 + 1 + 1)) rfl rfl (news_arr _ _ _ _ rfl) (d.one _) (small_max _ (by omega)) (by omega) (by simp; omega) ?_)
  intro v5 w5 hown5 hgrow5 _
  have hb5 : Below (w2.heap.size + 1) w4 w5 := ((Below.refl _ _).alloc hs4 _).grown hgrow5 (by simp; omega) (own_ge HO4.out)
  have HR5 : Hid (Rel (w2.heap.size + 1) w4 d f 0 v5 w5) := Rel.start hown5 hb5 ((hb5.block _ (by omega)).trans HH4.out)
  clear hown5 hgrow5 hb5 HO4 hrun c0 c1 c2 c3 c4 c5 c6 c7 c8 HH4
  go_wp2_with fail
  go_loopw [12, 36] (fun v i wr => ∃ k : Nat, k ≤ len ∧ i = .int .i64 k ∧ Rel (w2.heap.size + 1) w4 d f k v wr) (fun _ i _ => len - (intOf i).toNat)
  case atStart => exact ⟨0, Nat.zero_le _, rfl, HR5.out⟩
  case round =>
    obtain ⟨k, hk, rfl, xs, hown, hbel, he0, hek⟩ := hrel
    have HW : Hid (wr.ownsRow (w2.heap.size + 1) 51 9 u12 (k + 1) xs) := hown
    have HBR : Hid (Below (w2.heap.size + 1) w4 wr) := hbel
    have HE0 : Hid (Elem wr xs 0 d) := he0
    have HEK : Hid (∀ j, j < k → Elem wr xs (j + 1) (f j)) := hek
    have HBW : Hid (Below w.heap.size w wr) := HB4.out.trans (hbel.mono (by omega))
    have hswr : w4.heap.size ≤ wr.heap.size := hbel.size
    clear hown hbel he0 hek HR5
    by_cases hlt : k < len
    · obtain ⟨b, off, hbd, hblk⟩ := HQ.out k hlt
      subst hbd
      have hblk := BlkAt.below hblk HBW.out
      have c0 := hblk.c0
      have c1 := hblk.c1
      have c2 := hblk.c2
      have c3 := hblk.c3
      have c4 := hblk.c4
      have c5 := hblk.c5
      have c6 := hblk.c6
      have c7 := hblk.c7
      have c8 := hblk.c8
      have HC := block_dat (f k) wr hblk.hlen hblk.body
      clear hblk HQ
      go_wp2_with fail
      refine HC.mono ?_
      rintro e w6 ⟨rfl, hsz6, hheap6, hbel6⟩
      have HW6 : Hid (w6.ownsRow (w2.heap.size + 1) 51 9 u12 (k + 1) xs) := HW.out.kept (grown_of_below hbel6) (by cases u12.ownBlock <;> simp)
      have hsw6 : wr.heap.size ≤ w6.heap.size := hbel6.size
      have HB6 : Hid (Below wr.heap.size wr w6) := hbel6
      have HG6 : Hid (w6.heap[wr.heap.size + 1 + 1]? = some (.cells (byts (f k).bs (f k).nb).toArray 5 (0, 0))) := hheap6
      clear c0 c1 c2 c3 c4 c5 c6 c7 c8 hheap6 hbel6 hsz6 HC
      go_wp2_with (at_builtin; refine wpList_append_own _ rfl (.tmp 39) (.tmp 45) 45 rfl (w2.heap.size + 1) 51 i0 _ 9 40 Ybaf.underlying45 hi hz0 hz1 hz2 rfl (by decide) _ _ _ rfl (HW6.out.alloc _) ⟨w6.heap.size, 0, none⟩ 1 1 ((f k).cells (wr.heap.size + 1 + 1)) rfl rfl (news_arr _ _ _ _ rfl) ((f k).one _) (small_max _ (by omega)) (by omega) (by simp; omega) ?_)
      intro v7 w7 hown7 hgrow7 _
      have HR7 : Hid (Rel (w2.heap.size + 1) w4 d f (k + 1) v7 w7) := Rel.step HW.out HBR.out HE0.out HEK.out hs4 HB6.out HG6.out hgrow7 hown7
      clear hown7 hgrow7
      go_wp2_with fail
      go_roundw
      case rel => exact ⟨k + 1, by omega, by go_num, HR7.out⟩
      case measure => simp [intOf]; omega
    · obtain rfl : k = len := by omega
      obtain ⟨Q, cq, hu, hQB, hQs⟩ := HW.out.form (by omega)
      subst hu
      have hcq : k + 1 ≤ cq := own_cap HW.out
      clear hi hz0 hz1 hz2
      have hwr : wr.heap.size = wr.heap.size := rfl
      have HX := factsNextN wr wr.heap.size (.slice (some ⟨Q, 0, none⟩) (k + 1) cq) r0 hwr
      have hbX := belowNextN wr wr.heap.size (.slice (some ⟨Q, 0, none⟩) (k + 1) cq) r0 hwr
      obtain ⟨g, hnine0, hgh⟩ := HE0.out.nine HW.out (by omega)
      have hglt := lt_of_heap hgh
      have HC := ended_q wr.heap.size (wr.heap.size + 1 + 1) wr.heap.size Q k cq r0 ret d.h d.wb d.l d.D d.S d.fn d.N d.sys g d.nb d.bs (nextN wr wr.heap.size (.slice (some ⟨Q, 0, none⟩) (k + 1) cq) r0) (Nat.le_refl _) (by omega) (by omega) (by omega) (by omega) hcq HX.r HX.zr HX.q HX.zq (hnine0.later hbX) HX.c2 HX.c9 HX.z9 HX.c12 HX.z12 HX.c13 HX.z13 HX.c14 HX.z14 HX.e0 HX.e1 HX.y0 HX.y1 d.nb_le ((hbX.block g hglt).trans hgh) d.bD d.bS hfn d.bN hsy
      clear hnine0 hgh hglt
      go_wp2_with fail
      refine HC.mono ?_
      rintro e w8 ⟨rfl, x24, ⟨o, c23, x23, hc23, ho⟩, x9, hsent, hstart, ⟨G, cG, hGl, x12, xG⟩, hbut⟩
      have hsX := HX.size
      have xk := (hbut.cell ⟨wr.heap.size + 1, 0, none⟩ (World.block_lt_of_cell? _ _ HX.k) (by simp)).trans HX.k
      have xe2 := (hbut.cell ⟨wr.heap.size + 1 + 1, 2, none⟩ (World.block_lt_of_cell? _ _ HX.e2) (by simp)).trans HX.e2
      have hb8 : Below wr.heap.size wr w8 := hbX.trans hbut.below
      have HREST : Hid (∀ j, j < k → ∃ g, NineAt w8 Q ((j + 1) * 9) (f j).h (f j).wb (f j).l (f j).D (f j).S (f j).fn (f j).N (f j).sys (.slice (some ⟨g, 0, none⟩) (f j).nb (f j).nb) ∧ w8.heap[g]? = some (.cells (byts (f j).bs (f j).nb).toArray 5 (0, 0))) := fun j hj => by
        obtain ⟨g, hn, hh⟩ := (HEK.out j hj).nine HW.out (by omega)
        exact ⟨g, hn.later hb8, (hb8.block g (lt_of_heap hh)).trans hh⟩
      have HF8 : Hid (w8.heap[w2.heap.size]? = some (.cells #[.bool d.h, .int .u16 d.D, .bool d.wb, .int .u8 d.S, .int .u8 d.fn, .bool d.l, .int .u16 d.N, .int .u32 d.sys, .slice (some ⟨w.heap.size + 1 + 1 + 1, 0, none⟩) d.nb d.nb] 51 (0, 0))) := ((hb8.block _ (by omega)).trans (HBR.out.block _ (by omega))).trans HF4.out
      have HB8 : Hid (Below w.heap.size w w8) := HBW.out.trans (hb8.mono HBW.out.size)
      have hs8 : wr.heap.size ≤ w8.heap.size := hb8.size
      obtain ⟨es, ecs, eG, eC, _, _, s1, s2, s3⟩ := hsent
      obtain ⟨et, etc, _, t1, t2⟩ := hstart
      clear hbut HX hbX HEK HE0 HW HBR HF4 HC hb8
      go_wp2_with fail
      obtain ⟨wq, hwq⟩ : ∃ wq, wq = wr := ⟨_, rfl⟩
      subst hwq
      go_loopw [113] (fun i wx => ∃ j : Nat, j ≤ k ∧ i = .int .i64 j ∧ Below w8.heap.size w8 wx) (fun i _ => k - (intOf i).toNat)
      case atStart => exact ⟨0, Nat.zero_le _, rfl, Below.refl _ _⟩
      case round =>
        obtain ⟨j, hj, rfl, hbx⟩ := hrel
        have HBX : Hid (Below w8.heap.size w8 wr) := hbx
        have HBWX : Hid (Below w.heap.size w wr) := HB8.out.trans (hbx.mono HB8.out.size)
        have hsx : w8.heap.size ≤ wr.heap.size := hbx.size
        clear hbx
        by_cases hlt : j < k
        · obtain ⟨b, off, hbd, hblk⟩ := HQ.out j hlt
          subst hbd
          obtain rfl : o = 9 := ho (by omega)
          obtain ⟨g, hn, hgh⟩ := HREST.out j hlt
          rw [show (j + 1) * 9 = 9 + j * 9 by omega] at hn
          have hblk := BlkAt.below hblk HBWX.out
          have c0 := hblk.c0
          have c1 := hblk.c1
          have c2 := hblk.c2
          have c3 := hblk.c3
          have c4 := hblk.c4
          have c5 := hblk.c5
          have c6 := hblk.c6
          have c7 := hblk.c7
          have c8 := hblk.c8
          have HC := block_dat (f j) wr hblk.hlen hblk.body
          have HN : Hid (NineAt w8 Q (9 + j * 9) (f j).h (f j).wb (f j).l (f j).D (f j).S (f j).fn (f j).N (f j).sys (.slice (some ⟨g, 0, none⟩) (f j).nb (f j).nb)) := hn
          have HG : Hid (w8.heap[g]? = some (.cells (byts (f j).bs (f j).nb).toArray 5 (0, 0))) := hgh
          have hg8 := lt_of_heap hgh
          have X23 : Hid (w8.cell? ⟨wq.heap.size, 23, none⟩ = some (.slice (some ⟨Q, 9, none⟩) k c23)) := x23
          clear hblk hn hgh x24 x23 x9 x12 xG xk xe2 s1 s2 s3 t1 t2
          go_wp2_with fail
          refine HC.mono ?_
          rintro e w9 ⟨rfl, hsz9, hh9, hb9⟩
          have hbx9 : Below w8.heap.size w8 w9 := HBX.out.trans (hb9.mono hsx)
          have hs9 : wr.heap.size ≤ w9.heap.size := hb9.size
          have hsq9 : wq.heap.size < w9.heap.size := World.block_lt_of_cell? _ _ (later hbx9 X23.out)
          have y23 := later hbx9 X23.out
          have nn := HN.out.later hbx9
          have n0 := nn.c0
          have n1 := nn.c1
          have n2 := nn.c2
          have n3 := nn.c3
          have n4 := nn.c4
          have n5 := nn.c5
          have n6 := nn.c6
          have n7 := nn.c7
          have n8 := nn.c8
          have hQ9 : Q < w9.heap.size := World.block_lt_of_cell? _ _ n0
          have hg9 : w9.heap[g]? = some (.cells (byts (f j).bs (f j).nb).toArray 5 (0, 0)) := (hbx9.block g hg8).trans HG.out
          have nh := neq_head (f j).h (f j).wb (f j).l (f j).D (f j).S (f j).fn (f j).N (f j).sys
          have HE := fun (o : Obj) (n : Nat) => equal_any g (wr.heap.size + 1 + 1) (f j).nb (f j).nb (f j).nb (f j).bs ((w9.alloc o).drewN n) (by rw [heap_drewN]; exact (Below.heap_alloc _ _ _ (lt_of_heap hg9)).trans hg9) (by rw [heap_drewN]; exact (Below.heap_alloc _ _ _ (lt_of_heap hh9)).trans hh9)
          have HB9 : Hid (Below w8.heap.size w8 w9) := hbx9
          clear c0 c1 c2 c3 c4 c5 c6 c7 c8 HC hh9 hb9 hsz9 hbx9 nn hg9
          go_wp2_with fail
          go_quiet ((go_at_call 16; exact Calls.quiet_of_same (HE _ _)))
          go_wp2_with fail
          go_roundw
          case rel => exact ⟨j + 1, by omega, by go_num, below_drewN (HB9.out.alloc (by omega) _)⟩
          case measure => simp [intOf]; omega
        · obtain rfl : j = k := by omega
          have hnb := d.nb_le
          have hlt8 := lt_of_heap HF8.out
          have y9 := later HBX.out x9
          have y12 := later HBX.out x12
          have yG := later HBX.out xG
          have ye2 := later HBX.out xe2
          have z1 := later HBX.out s1
          have z2 := later HBX.out s2
          have z3 := later HBX.out s3
          have z4 := later HBX.out t1
          have z5 := later HBX.out t2
          have yF := cell_heap ((HBX.out.block _ hlt8).trans HF8.out) 8 (.slice (some ⟨w.heap.size + 1 + 1 + 1, 0, none⟩) d.nb d.nb) rfl
          clear x24 x23 x9 x12 xG xk xe2 s1 s2 s3 t1 t2 HF8 HREST HB8
          go_wp2
          go_ret
          exact ⟨rfl, HBWX.out⟩
end Go.Proofs.YbulkaqtiFmt
