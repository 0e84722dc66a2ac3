/-
  sendEnded WHERE THE QUEUE IS NOT EMPTY: the next block goes to the link.
-/
import Derived.Test.YbulkaqtiFmtEnq
namespace Go.Proofs.YbulkaqtiFmt
open Go.RowKit
set_option linter.unusedVariables false

/-- nine cells of a block, at offset o of the heap's block b -/
structure NineAt (w : World) (b o : Nat) (h wb l : Bool) (D S Fn Nm Sy : Int) (sl : Value) : Prop where
  c0 : w.cell? ⟨b, o, none⟩ = some (.bool h)
  c1 : w.cell? ⟨b, o + 1, none⟩ = some (.int .u16 D)
  c2 : w.cell? ⟨b, o + 2, none⟩ = some (.bool wb)
  c3 : w.cell? ⟨b, o + 3, none⟩ = some (.int .u8 S)
  c4 : w.cell? ⟨b, o + 4, none⟩ = some (.int .u8 Fn)
  c5 : w.cell? ⟨b, o + 5, none⟩ = some (.bool l)
  c6 : w.cell? ⟨b, o + 6, none⟩ = some (.int .u16 Nm)
  c7 : w.cell? ⟨b, o + 7, none⟩ = some (.int .u32 Sy)
  c8 : w.cell? ⟨b, o + 8, none⟩ = some sl

set_option maxHeartbeats 2000000 in
set_option maxRecDepth 100000 in
theorem ended_q (M E B Q m cap : Nat) (r0 ret : Int) (h wb l : Bool) (D S Fn Nm Sy : Int) (g n : Nat) (bs : Nat → Int) (w : World) (hBM : B ≤ M) (hBE : B ≤ E) (hME : M ≠ E) (hQM : Q ≠ M) (hgM : g ≠ M) (hmc : m + 1 ≤ cap)
    (c24 : w.cell? ⟨M, 24, none⟩ = some (.int .i64 r0)) (f24 : w.frozen? ⟨M, 24, none⟩ = false) (c23 : w.cell? ⟨M, 23, none⟩ = some (.slice (some ⟨Q, 0, none⟩) (m + 1) cap)) (f23 : w.frozen? ⟨M, 23, none⟩ = false)
    (hq : NineAt w Q 0 h wb l D S Fn Nm Sy (.slice (some ⟨g, 0, none⟩) n n))
    (h2 : w.cell? ⟨M, 2, none⟩ = some (.int .i64 0)) (h9 : w.cell? ⟨M, 9, none⟩ = some (.int .i64 0)) (f9 : w.frozen? ⟨M, 9, none⟩ = false)
    (h12 : w.cell? ⟨M, 12, none⟩ = some (.slice none 0 0)) (f12 : w.frozen? ⟨M, 12, none⟩ = false) (h13 : w.cell? ⟨M, 13, none⟩ = some (.int .i64 0)) (f13 : w.frozen? ⟨M, 13, none⟩ = false) (h14 : w.cell? ⟨M, 14, none⟩ = some (.bool false)) (f14 : w.frozen? ⟨M, 14, none⟩ = false)
    (e0 : w.cell? ⟨E, 0, none⟩ = some (.slice none 0 0)) (e1 : w.cell? ⟨E, 1, none⟩ = some (.slice none 0 0)) (g0 : w.frozen? ⟨E, 0, none⟩ = false) (g1 : w.frozen? ⟨E, 1, none⟩ = false)
    (hn : n ≤ 244) (hg : w.heap[g]? = some (.cells (byts bs n).toArray 5 (0, 0)))
    (hD : 0 ≤ D ∧ D ≤ 32767) (hS : 0 ≤ S ∧ S ≤ 127) (hFn : 0 ≤ Fn ∧ Fn ≤ 255) (hNm : 0 ≤ Nm ∧ Nm ≤ 32767) (hSy : 0 ≤ Sy ∧ Sy ≤ 4294967295) :
    Calls Ybaf.prog 13 #[.pointer (some ⟨M, 0, none⟩), .iface 67 (.pointer (some ⟨E, 0, none⟩)), .int .i64 ret, .bool true] w fun e w' =>
      e = .returned (.tuple #[]) ∧ w'.cell? ⟨M, 24, none⟩ = some (.int .i64 (wrap64 (r0 + ret))) ∧ (∃ o c, w'.cell? ⟨M, 23, none⟩ = some (.slice (some ⟨Q, o, none⟩) m c) ∧ m ≤ c ∧ (0 < m → o = 9)) ∧ w'.cell? ⟨M, 9, none⟩ = some (.int .i64 4) ∧ Sent w' E w.heap.size 5 ∧ Started w' E w.heap.size 1 ∧
      (∃ G c, w.heap.size ≤ G ∧ w'.cell? ⟨M, 12, none⟩ = some (.slice (some ⟨G, 0, none⟩) (n + 13) c) ∧ w'.cell? ⟨G, 0, none⟩ = some (.int .u8 (n + 10))) ∧
      But B [⟨M, 24, none⟩, ⟨M, 23, none⟩, ⟨M, 9, none⟩, ⟨M, 12, none⟩, ⟨M, 13, none⟩, ⟨M, 14, none⟩, ⟨E, 0, none⟩, ⟨E, 1, none⟩] w w' := by
  generalize ht : wrap64 (r0 + ret) = tot
  have hM : M < w.heap.size := World.block_lt_of_cell? _ _ h9
  have hE : E < w.heap.size := World.block_lt_of_cell? _ _ e0
  have hQ : Q < w.heap.size := World.block_lt_of_cell? _ _ hq.c0
  have hgl := lt_of_heap hg
  have hm0 : decide ((0 : Int) < (m : Int) + 1) = true := by simp
  have q0 := hq.c0
  have q1 := hq.c1
  have q2 := hq.c2
  have q3 := hq.c3
  have q4 := hq.c4
  have q5 := hq.c5
  have q6 := hq.c6
  have q7 := hq.c7
  have q8 := hq.c8
  clear hq
  by_cases hc1 : cap = 1
  · obtain rfl : m = 0 := by omega
    subst hc1
    obtain ⟨W, hW⟩ : ∃ W, W = (w.setCell ⟨M, 24, none⟩ (.int .i64 tot)).setCell ⟨M, 23, none⟩ (.slice (some ⟨Q, 0, none⟩) 0 0) := ⟨_, rfl⟩
    have hbW : But M [⟨M, 24, none⟩, ⟨M, 23, none⟩] w W := by
      rw [hW]; exact (but_store (ps := [⟨M, 24, none⟩, ⟨M, 23, none⟩]) ⟨M, 24, none⟩ _ (by simp) (Nat.le_refl _) hM).setCell ⟨M, 23, none⟩ _ (by simp) (Nat.le_refl _)
    have hsW : W.heap.size = w.heap.size := by rw [hW]; simp
    have k24 : W.cell? ⟨M, 24, none⟩ = some (.int .i64 tot) := by
      rw [hW]; exact (World.cell?_setCell_other _ ⟨M, 23, none⟩ ⟨M, 24, none⟩ _ (by simp)).trans (World.cell?_setCell_same _ _ _ c24)
    have k23 : W.cell? ⟨M, 23, none⟩ = some (.slice (some ⟨Q, 0, none⟩) 0 0) := by
      rw [hW]; exact World.cell?_setCell_same _ _ _ ((World.cell?_setCell_other _ ⟨M, 24, none⟩ ⟨M, 23, none⟩ _ (by simp)).trans c23)
    have kgh : W.heap[g]? = some (.cells (byts bs n).toArray 5 (0, 0)) := by
      rw [hW, Below.heap_setCell _ _ _ _ hgM, Below.heap_setCell _ _ _ _ hgM]; exact hg
    go_enter Ybaf.func13, Ybaf.ntmps13
    go_wp2_with fail
    rw [← hW]
    clear hW
    have hb0 : But B [⟨M, 24, none⟩, ⟨M, 23, none⟩] w (W.alloc (.cells #[.bool h, .int .u16 D, .bool wb, .int .u8 S, .int .u8 Fn, .bool l, .int .u16 Nm, .int .u32 Sy, .slice (some ⟨g, 0, none⟩) n n] 51)) := (hbW.lower hBM).trans (qs := []) (But.of_below ((Below.refl _ _).alloc (Nat.le_refl _) _) (by omega)) (fun _ h => h) (fun _ h => by cases h)
    have hbA : Below W.heap.size W (W.alloc (.cells #[.bool h, .int .u16 D, .bool wb, .int .u8 S, .int .u8 Fn, .bool l, .int .u16 Nm, .int .u32 Sy, .slice (some ⟨g, 0, none⟩) n n] 51)) := (Below.refl _ _).alloc (Nat.le_refl _) _
    have j24 := (hbA.cell (p := ⟨M, 24, none⟩) (by show M < W.heap.size; omega)).trans k24
    have j23 := (hbA.cell (p := ⟨M, 23, none⟩) (by show M < W.heap.size; omega)).trans k23
    have jg := (hbA.block g (by omega)).trans kgh
    have j2 := (hb0.cell ⟨M, 2, none⟩ hM (by simp)).trans h2
    have j9 := (hb0.cell ⟨M, 9, none⟩ hM (by simp)).trans h9
    have j12 := (hb0.cell ⟨M, 12, none⟩ hM (by simp)).trans h12
    have j13 := (hb0.cell ⟨M, 13, none⟩ hM (by simp)).trans h13
    have j14 := (hb0.cell ⟨M, 14, none⟩ hM (by simp)).trans h14
    have je0 := (hb0.cell ⟨E, 0, none⟩ hE (by simp)).trans e0
    have je1 := (hb0.cell ⟨E, 1, none⟩ hE (by simp)).trans e1
    have jf9 := (hb0.frozen ⟨M, 9, none⟩ hM).trans f9
    have jf12 := (hb0.frozen ⟨M, 12, none⟩ hM).trans f12
    have jf13 := (hb0.frozen ⟨M, 13, none⟩ hM).trans f13
    have jf14 := (hb0.frozen ⟨M, 14, none⟩ hM).trans f14
    have jg0 := (hb0.frozen ⟨E, 0, none⟩ hE).trans g0
    have jg1 := (hb0.frozen ⟨E, 1, none⟩ hE).trans g1
    have HC := linkSend_any M E B (.int .i64 0) (.bool false) h wb l D S Fn Nm Sy g n bs (W.alloc (.cells #[.bool h, .int .u16 D, .bool wb, .int .u8 S, .int .u8 Fn, .bool l, .int .u16 Nm, .int .u32 Sy, .slice (some ⟨g, 0, none⟩) n n] 51)).drew hBM hBE hME j2 j9 jf9 j12 jf12 j13 jf13 j14 jf14 je0 je1 jg0 jg1 hn jg hD hS hFn hNm hSy
    have HB0 : Hid (But B [⟨M, 24, none⟩, ⟨M, 23, none⟩, ⟨M, 9, none⟩, ⟨M, 12, none⟩, ⟨M, 13, none⟩, ⟨M, 14, none⟩, ⟨E, 0, none⟩, ⟨E, 1, none⟩] w (W.alloc (.cells #[.bool h, .int .u16 D, .bool wb, .int .u8 S, .int .u8 Fn, .bool l, .int .u16 Nm, .int .u32 Sy, .slice (some ⟨g, 0, none⟩) n n] 51))) := hb0.trans (qs := []) (But.of_below (Below.refl _ _) (Nat.le_trans (by omega) hb0.size)) (fun _ h => by simp at h; rcases h with h | h <;> (subst h; simp)) (fun _ h => by cases h)
    clear hb0 hbA hbW k24 k23 kgh c24 f24 c23 f23 h2 h9 f9 h12 f12 h13 f13 h14 f14 e0 e1 g0 g1 jg jg0 jg1 jf14 jf13 jf12 jf9 je1 je0 j14 j13 j12 j9 j2 q0 q1 q2 q3 q4 q5 q6 q7 q8 hg
    go_region_with (go_at_call 24; refine HC.mono ?_; rintro e w5 ⟨rfl, p9, hs5, ht5, ⟨G, c, hG, p12, pG⟩, hb5⟩)
    have p24 := (hb5.cell ⟨M, 24, none⟩ (by show M < (W.alloc _).drew.heap.size; simp; omega) (by simp)).trans j24
    have p23 := (hb5.cell ⟨M, 23, none⟩ (by show M < (W.alloc _).drew.heap.size; simp; omega) (by simp)).trans j23
    have hlo : w.heap.size ≤ (W.alloc (.cells #[.bool h, .int .u16 D, .bool wb, .int .u8 S, .int .u8 Fn, .bool l, .int .u16 Nm, .int .u32 Sy, .slice (some ⟨g, 0, none⟩) n n] 51)).drew.heap.size := by simp; omega
    have HS : Hid (Sent w5 E w.heap.size 5) := hs5.lower hlo
    have HT : Hid (Started w5 E w.heap.size 1) := ht5.lower hlo
    have HB : Hid (But B [⟨M, 24, none⟩, ⟨M, 23, none⟩, ⟨M, 9, none⟩, ⟨M, 12, none⟩, ⟨M, 13, none⟩, ⟨M, 14, none⟩, ⟨E, 0, none⟩, ⟨E, 1, none⟩] w w5) := HB0.out.trans hb5.undrew (fun _ h => h) (fun _ h => by simp at h; rcases h with h | h | h | h | h | h <;> (subst h; simp))
    have hGl := Nat.le_trans hlo hG
    clear hb5 hs5 ht5 HB0 hlo hG HC
    go_wp2
    go_end0
    exact ⟨rfl, p24, ⟨0, _, p23, by omega, by omega⟩, p9, HS.out, HT.out, ⟨G, c, hGl, p12, pG⟩, HB.out⟩
  · have hc2 : ¬ cap = 1 := hc1
    obtain ⟨W, hW⟩ : ∃ W, W = (w.setCell ⟨M, 24, none⟩ (.int .i64 tot)).setCell ⟨M, 23, none⟩ (.slice (some ⟨Q, 9, none⟩) m (cap - 1)) := ⟨_, rfl⟩
    have hbW : But M [⟨M, 24, none⟩, ⟨M, 23, none⟩] w W := by
      rw [hW]; exact (but_store (ps := [⟨M, 24, none⟩, ⟨M, 23, none⟩]) ⟨M, 24, none⟩ _ (by simp) (Nat.le_refl _) hM).setCell ⟨M, 23, none⟩ _ (by simp) (Nat.le_refl _)
    have hsW : W.heap.size = w.heap.size := by rw [hW]; simp
    have k24 : W.cell? ⟨M, 24, none⟩ = some (.int .i64 tot) := by
      rw [hW]; exact (World.cell?_setCell_other _ ⟨M, 23, none⟩ ⟨M, 24, none⟩ _ (by simp)).trans (World.cell?_setCell_same _ _ _ c24)
    have k23 : W.cell? ⟨M, 23, none⟩ = some (.slice (some ⟨Q, 9, none⟩) m (cap - 1)) := by
      rw [hW]; exact World.cell?_setCell_same _ _ _ ((World.cell?_setCell_other _ ⟨M, 24, none⟩ ⟨M, 23, none⟩ _ (by simp)).trans c23)
    have kgh : W.heap[g]? = some (.cells (byts bs n).toArray 5 (0, 0)) := by
      rw [hW, Below.heap_setCell _ _ _ _ hgM, Below.heap_setCell _ _ _ _ hgM]; exact hg
    go_enter Ybaf.func13, Ybaf.ntmps13
    go_wp2_with fail
    rw [← hW]
    clear hW
    have hb0 : But B [⟨M, 24, none⟩, ⟨M, 23, none⟩] w (W.alloc (.cells #[.bool h, .int .u16 D, .bool wb, .int .u8 S, .int .u8 Fn, .bool l, .int .u16 Nm, .int .u32 Sy, .slice (some ⟨g, 0, none⟩) n n] 51)) := (hbW.lower hBM).trans (qs := []) (But.of_below ((Below.refl _ _).alloc (Nat.le_refl _) _) (by omega)) (fun _ h => h) (fun _ h => by cases h)
    have hbA : Below W.heap.size W (W.alloc (.cells #[.bool h, .int .u16 D, .bool wb, .int .u8 S, .int .u8 Fn, .bool l, .int .u16 Nm, .int .u32 Sy, .slice (some ⟨g, 0, none⟩) n n] 51)) := (Below.refl _ _).alloc (Nat.le_refl _) _
    have j24 := (hbA.cell (p := ⟨M, 24, none⟩) (by show M < W.heap.size; omega)).trans k24
    have j23 := (hbA.cell (p := ⟨M, 23, none⟩) (by show M < W.heap.size; omega)).trans k23
    have jg := (hbA.block g (by omega)).trans kgh
    have j2 := (hb0.cell ⟨M, 2, none⟩ hM (by simp)).trans h2
    have j9 := (hb0.cell ⟨M, 9, none⟩ hM (by simp)).trans h9
    have j12 := (hb0.cell ⟨M, 12, none⟩ hM (by simp)).trans h12
    have j13 := (hb0.cell ⟨M, 13, none⟩ hM (by simp)).trans h13
    have j14 := (hb0.cell ⟨M, 14, none⟩ hM (by simp)).trans h14
    have je0 := (hb0.cell ⟨E, 0, none⟩ hE (by simp)).trans e0
    have je1 := (hb0.cell ⟨E, 1, none⟩ hE (by simp)).trans e1
    have jf9 := (hb0.frozen ⟨M, 9, none⟩ hM).trans f9
    have jf12 := (hb0.frozen ⟨M, 12, none⟩ hM).trans f12
    have jf13 := (hb0.frozen ⟨M, 13, none⟩ hM).trans f13
    have jf14 := (hb0.frozen ⟨M, 14, none⟩ hM).trans f14
    have jg0 := (hb0.frozen ⟨E, 0, none⟩ hE).trans g0
    have jg1 := (hb0.frozen ⟨E, 1, none⟩ hE).trans g1
    have HC := linkSend_any M E B (.int .i64 0) (.bool false) h wb l D S Fn Nm Sy g n bs (W.alloc (.cells #[.bool h, .int .u16 D, .bool wb, .int .u8 S, .int .u8 Fn, .bool l, .int .u16 Nm, .int .u32 Sy, .slice (some ⟨g, 0, none⟩) n n] 51)).drew hBM hBE hME j2 j9 jf9 j12 jf12 j13 jf13 j14 jf14 je0 je1 jg0 jg1 hn jg hD hS hFn hNm hSy
    have HB0 : Hid (But B [⟨M, 24, none⟩, ⟨M, 23, none⟩, ⟨M, 9, none⟩, ⟨M, 12, none⟩, ⟨M, 13, none⟩, ⟨M, 14, none⟩, ⟨E, 0, none⟩, ⟨E, 1, none⟩] w (W.alloc (.cells #[.bool h, .int .u16 D, .bool wb, .int .u8 S, .int .u8 Fn, .bool l, .int .u16 Nm, .int .u32 Sy, .slice (some ⟨g, 0, none⟩) n n] 51))) := hb0.trans (qs := []) (But.of_below (Below.refl _ _) (Nat.le_trans (by omega) hb0.size)) (fun _ h => by simp at h; rcases h with h | h <;> (subst h; simp)) (fun _ h => by cases h)
    clear hb0 hbA hbW k24 k23 kgh c24 f24 c23 f23 h2 h9 f9 h12 f12 h13 f13 h14 f14 e0 e1 g0 g1 jg jg0 jg1 jf14 jf13 jf12 jf9 je1 je0 j14 j13 j12 j9 j2 q0 q1 q2 q3 q4 q5 q6 q7 q8 hg
    go_region_with (go_at_call 24; refine HC.mono ?_; rintro e w5 ⟨rfl, p9, hs5, ht5, ⟨G, c, hG, p12, pG⟩, hb5⟩)
    have p24 := (hb5.cell ⟨M, 24, none⟩ (by show M < (W.alloc _).drew.heap.size; simp; omega) (by simp)).trans j24
    have p23 := (hb5.cell ⟨M, 23, none⟩ (by show M < (W.alloc _).drew.heap.size; simp; omega) (by simp)).trans j23
    have hlo : w.heap.size ≤ (W.alloc (.cells #[.bool h, .int .u16 D, .bool wb, .int .u8 S, .int .u8 Fn, .bool l, .int .u16 Nm, .int .u32 Sy, .slice (some ⟨g, 0, none⟩) n n] 51)).drew.heap.size := by simp; omega
    have HS : Hid (Sent w5 E w.heap.size 5) := hs5.lower hlo
    have HT : Hid (Started w5 E w.heap.size 1) := ht5.lower hlo
    have HB : Hid (But B [⟨M, 24, none⟩, ⟨M, 23, none⟩, ⟨M, 9, none⟩, ⟨M, 12, none⟩, ⟨M, 13, none⟩, ⟨M, 14, none⟩, ⟨E, 0, none⟩, ⟨E, 1, none⟩] w w5) := HB0.out.trans hb5.undrew (fun _ h => h) (fun _ h => by simp at h; rcases h with h | h | h | h | h | h <;> (subst h; simp))
    have hGl := Nat.le_trans hlo hG
    clear hb5 hs5 ht5 HB0 hlo hG HC
    go_wp2
    go_end0
    exact ⟨rfl, p24, ⟨9, _, p23, by omega, by omega⟩, p9, HS.out, HT.out, ⟨G, c, hGl, p12, pG⟩, HB.out⟩
end Go.Proofs.YbulkaqtiFmt
