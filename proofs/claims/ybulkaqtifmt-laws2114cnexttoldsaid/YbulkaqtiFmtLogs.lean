/-
  THE CLOSURES AND THE UPPER LAYER's messageSent, by contracts: each appends to a slice that was nil.
-/
import Derived.Test.YbulkaqtiFmtBlock
import Derived.Deep.RegionHeld
namespace Go.Proofs.YbulkaqtiFmt
open Go.RowKit

/-- the slice in the cell a has one element, v -/
def One (w : World) (a : Addr) (v : Value) : Prop := ∃ g cap, w.cell? a = some (.slice (some ⟨g, 0, none⟩) 1 cap) ∧ w.cell? ⟨g, 0, none⟩ = some v

/-- w' is w but for the cells ps, and for new blocks; below block B nothing has turned -/
structure But (B : Nat) (ps : List Addr) (w w' : World) : Prop where
  below : Below B w w'
  size : w.heap.size ≤ w'.heap.size
  cell : ∀ a : Addr, a.block < w.heap.size → a ∉ ps → w'.cell? a = w.cell? a
  frozen : ∀ a : Addr, a.block < w.heap.size → w'.frozen? a = w.frozen? a

theorem But.of_below {B : Nat} {ps : List Addr} {w w' : World} (h : Below w.heap.size w w') (hB : B ≤ w.heap.size) : But B ps w w' :=
  ⟨h.mono hB, h.size, fun _ ha _ => h.cell ha, fun _ ha => h.frozen ha⟩
theorem But.trans {B : Nat} {ps qs rs : List Addr} {a b c : World} (h : But B ps a b) (k : But B qs b c) (hp : ∀ x ∈ ps, x ∈ rs) (hq : ∀ x ∈ qs, x ∈ rs) : But B rs a c :=
  ⟨h.below.trans k.below, Nat.le_trans h.size k.size,
   fun x hx hn => (k.cell x (Nat.lt_of_lt_of_le hx h.size) (fun hm => hn (hq x hm))).trans (h.cell x hx (fun hm => hn (hp x hm))),
   fun x hx => (k.frozen x (Nat.lt_of_lt_of_le hx h.size)).trans (h.frozen x hx)⟩
theorem But.setCell {B : Nat} {ps : List Addr} {w w' : World} (h : But B ps w w') (a : Addr) (v : Value) (ha : a ∈ ps) (hB : B ≤ a.block) : But B ps w (w'.setCell a v) :=
  ⟨h.below.setCell hB v, by simpa using h.size,
   fun x hx hn => (World.cell?_setCell_other _ a x _ (by intro e; subst e; exact hn ha)).trans (h.cell x hx hn),
   fun x hx => by simpa using h.frozen x hx⟩

theorem But.undrew {B : Nat} {ps : List Addr} {w w' : World} (h : But B ps w.drew w') : But B ps w w' :=
  ⟨⟨h.below.os, h.below.tape, h.below.output, h.below.size, h.below.block⟩, h.size, h.cell, h.frozen⟩
theorem But.lower {B B' : Nat} {ps : List Addr} {w w' : World} (h : But B ps w w') (hB : B' ≤ B) : But B' ps w w' := ⟨h.below.mono hB, h.size, h.cell, h.frozen⟩

theorem info3 : (Ybaf.prog.info? 3).map (fun i => (i.zero, i.size, i.bytes)) = some (some (.int .i64 0), 1, 8) := by kernel_rfl
theorem info4 : (Ybaf.prog.info? 4).map (fun i => (i.zero, i.size, i.bytes)) = some (some (.bool false), 1, 1) := by kernel_rfl

theorem news_one (w : World) (u : Value) (t : TypeId) (n : Nat) (h : n = w.heap.size) : ∀ j x, [u][j]? = some x → (w.alloc (.cells #[u] t)).cell? ((⟨n, 0, none⟩ : Addr).add j) = some x := by
  intro j x hj
  match j, hj with
  | 0, hj => simp at hj; subst hj; exact World.cell?_alloc_at _ _ _ _ h
theorem one_one (u : Value) (h : u.oneCell' = true) : ∀ x ∈ [u], x.oneCell' = true := by
  intro x hx; simp at hx; subst hx; exact h
theorem small_max (n : Nat) (h : n ≤ 1000000) : n ≤ maxLen := by unfold maxLen; omega

/-- one element in a row of the call's own -/
theorem one_of_owns {w : World} {B : Nat} {e : TypeId} {v u : Value} (h : w.ownsRow B e 1 v 1 [u]) : ∃ g cap, v = .slice (some ⟨g, 0, none⟩) 1 cap ∧ B ≤ g ∧ w.cell? ⟨g, 0, none⟩ = some u := by
  obtain ⟨_, hc⟩ := h
  rcases hc with ⟨_, h0⟩ | ⟨g, cap, cur, rfl, hg, hh, hn, _, hsz, ht⟩
  · cases h0
  · refine ⟨g, cap, rfl, hg, ?_⟩
    have h0 : cur.toList[0]? = some u := by
      have := congrArg (·[0]?) ht
      simpa using this
    simp [World.cell?, hh]
    simpa using h0

set_option maxHeartbeats 1000000 in
theorem log11 (r : Int) (B : Nat) (w : World) (hc : w.cell? ⟨B, 0, none⟩ = some (.slice none 0 0)) (hf : w.frozen? ⟨B, 0, none⟩ = false) :
    Calls Ybaf.prog 11 #[.int .i64 r, .pointer (some ⟨B, 0, none⟩)] w fun e w' => e = .returned (.tuple #[]) ∧ One w' ⟨B, 0, none⟩ (.int .i64 r) ∧ But B [⟨B, 0, none⟩] w w' := by
  obtain ⟨i0, hi, hz0, hz1, hz2⟩ := info_parts info3
  have hB : B < w.heap.size := World.block_lt_of_cell? _ _ hc
  go_enter Ybaf.func11, Ybaf.ntmps11
  go_wp2_with (at_builtin; refine wpList_append_own _ rfl _ _ 62 rfl w.heap.size 3 i0 (.int .i64 0) 1 8 Ybaf.underlying62 hi hz0 hz1 hz2 rfl (by decide) _ _ _ rfl (World.ownsRow_nil _ _ _ _) ⟨w.heap.size, 0, none⟩ 1 1 [.int .i64 r] rfl rfl (news_one _ _ _ _ rfl) (one_one _ rfl) (small_max _ (by decide)) (by decide) (by simp) ?_)
  intro v' w1 hown hgrow _
  obtain ⟨g, cap, hv, hg, hcell⟩ := one_of_owns hown
  have hb : Below w.heap.size w w1 := ((Below.refl _ _).alloc (Nat.le_refl _) _).grown hgrow (by simp) (fun k hk => by cases hk)
  have hc1 : w1.cell? ⟨B, 0, none⟩ = some (.slice none 0 0) := (hb.cell hB).trans hc
  have hf1 : w1.frozen? ⟨B, 0, none⟩ = false := (hb.frozen hB).trans hf
  have hgB : g ≠ B := by omega
  rw [hv]
  clear hown hgrow hv hc hf
  go_wp2
  go_end0
  refine ⟨rfl, ⟨g, cap, World.cell?_setCell_same _ _ _ hc1, ?_⟩, (But.of_below hb (by omega)).setCell _ _ (by simp) (Nat.le_refl _)⟩
  exact (World.cell?_setCell_other _ ⟨B, 0, none⟩ ⟨g, 0, none⟩ _ (by intro e; exact hgB (Addr.mk.inj e).1.symm)).trans hcell

set_option maxHeartbeats 1000000 in
theorem log12 (r : Int) (B : Nat) (w : World) (hc : w.cell? ⟨B, 0, none⟩ = some (.slice none 0 0)) (hf : w.frozen? ⟨B, 0, none⟩ = false) :
    Calls Ybaf.prog 12 #[.int .i64 r, .pointer (some ⟨B, 0, none⟩)] w fun e w' => e = .returned (.tuple #[]) ∧ One w' ⟨B, 0, none⟩ (.int .i64 r) ∧ But B [⟨B, 0, none⟩] w w' := by
  obtain ⟨i0, hi, hz0, hz1, hz2⟩ := info_parts info3
  have hB : B < w.heap.size := World.block_lt_of_cell? _ _ hc
  go_enter Ybaf.func12, Ybaf.ntmps12
  go_wp2_with (at_builtin; refine wpList_append_own _ rfl _ _ 62 rfl w.heap.size 3 i0 (.int .i64 0) 1 8 Ybaf.underlying62 hi hz0 hz1 hz2 rfl (by decide) _ _ _ rfl (World.ownsRow_nil _ _ _ _) ⟨w.heap.size, 0, none⟩ 1 1 [.int .i64 r] rfl rfl (news_one _ _ _ _ rfl) (one_one _ rfl) (small_max _ (by decide)) (by decide) (by simp) ?_)
  intro v' w1 hown hgrow _
  obtain ⟨g, cap, hv, hg, hcell⟩ := one_of_owns hown
  have hb : Below w.heap.size w w1 := ((Below.refl _ _).alloc (Nat.le_refl _) _).grown hgrow (by simp) (fun k hk => by cases hk)
  have hc1 : w1.cell? ⟨B, 0, none⟩ = some (.slice none 0 0) := (hb.cell hB).trans hc
  have hf1 : w1.frozen? ⟨B, 0, none⟩ = false := (hb.frozen hB).trans hf
  have hgB : g ≠ B := by omega
  rw [hv]
  clear hown hgrow hv hc hf
  go_wp2
  go_end0
  refine ⟨rfl, ⟨g, cap, World.cell?_setCell_same _ _ _ hc1, ?_⟩, (But.of_below hb (by omega)).setCell _ _ (by simp) (Nat.le_refl _)⟩
  exact (World.cell?_setCell_other _ ⟨B, 0, none⟩ ⟨g, 0, none⟩ _ (by intro e; exact hgB (Addr.mk.inj e).1.symm)).trans hcell

set_option maxHeartbeats 2000000 in
/-- messageSent of the law's upper layer: its two slices were nil -/
theorem sent73 (r : Int) (b : Bool) (U : Nat) (env : Value) (w : World) (hc0 : w.cell? ⟨U, 0, none⟩ = some (.slice none 0 0)) (hc1 : w.cell? ⟨U, 1, none⟩ = some (.slice none 0 0))
    (hf0 : w.frozen? ⟨U, 0, none⟩ = false) (hf1 : w.frozen? ⟨U, 1, none⟩ = false) :
    Calls Ybaf.prog 73 #[.pointer (some ⟨U, 0, none⟩), env, .int .i64 r, .bool b] w fun e w' => e = .returned (.tuple #[]) ∧ One w' ⟨U, 0, none⟩ (.int .i64 r) ∧ One w' ⟨U, 1, none⟩ (.bool b) ∧ But U [⟨U, 0, none⟩, ⟨U, 1, none⟩] w w' := by
  obtain ⟨i0, hi, hz0, hz1, hz2⟩ := info_parts info3
  obtain ⟨j0, hj, jz0, jz1, jz2⟩ := info_parts info4
  have hB : U < w.heap.size := World.block_lt_of_cell? _ _ hc0
  go_enter Ybaf.func73, Ybaf.ntmps73
  go_wp2_with (at_builtin; refine wpList_append_own _ rfl (.tmp 12) (.tmp 14) 62 rfl w.heap.size 3 i0 (.int .i64 0) 1 8 Ybaf.underlying62 hi hz0 hz1 hz2 rfl (by decide) _ _ _ rfl (World.ownsRow_nil _ _ _ _) ⟨w.heap.size, 0, none⟩ 1 1 [.int .i64 r] rfl rfl (news_one _ _ _ _ rfl) (one_one _ rfl) (small_max _ (by decide)) (by decide) (by simp) ?_)
  intro v' w1 hown hgrow _
  obtain ⟨g, cap, hv, hg, hcell⟩ := one_of_owns hown
  have hb : Below w.heap.size w w1 := ((Below.refl _ _).alloc (Nat.le_refl _) _).grown hgrow (by simp) (fun k hk => by cases hk)
  have k0 : w1.cell? ⟨U, 0, none⟩ = some (.slice none 0 0) := (hb.cell hB).trans hc0
  have k1 : w1.cell? ⟨U, 1, none⟩ = some (.slice none 0 0) := (hb.cell (p := ⟨U, 1, none⟩) hB).trans hc1
  have l0 : w1.frozen? ⟨U, 0, none⟩ = false := (hb.frozen hB).trans hf0
  have l1 : w1.frozen? ⟨U, 1, none⟩ = false := (hb.frozen (p := ⟨U, 1, none⟩) hB).trans hf1
  have hgB : g ≠ U := by omega
  have hs1 := hb.size
  rw [hv]
  have hgs : g < w1.heap.size := World.block_lt_of_cell? _ _ hcell
  clear hown hgrow hv hc0 hc1 hf0 hf1 hi hz0 hz1 hz2
  go_wp2_with (at_builtin; refine wpList_append_own _ rfl (.tmp 22) (.tmp 24) 64 rfl w1.heap.size 4 j0 (.bool false) 1 1 Ybaf.underlying64 hj jz0 jz1 jz2 rfl (by decide) _ _ _ rfl (World.ownsRow_nil _ _ _ _) ⟨w1.heap.size, 0, none⟩ 1 1 [.bool b] rfl rfl (news_one _ _ _ _ (by simp)) (one_one _ rfl) (small_max _ (by decide)) (by decide) (by simp) ?_)
  intro v2 w2 hown2 hgrow2 _
  obtain ⟨g2, cap2, hv2, hg2, hcell2⟩ := one_of_owns hown2
  have hb2 : Below w1.heap.size (w1.setCell ⟨U, 0, none⟩ (.slice (some ⟨g, 0, none⟩) 1 cap)) w2 := ((Below.refl _ _).alloc (by simp) _).grown hgrow2 (by simp) (fun k hk => by cases hk)
  have m0 : w2.cell? ⟨U, 0, none⟩ = some (.slice (some ⟨g, 0, none⟩) 1 cap) := (hb2.cell (p := ⟨U, 0, none⟩) (by show U < _; omega)).trans (World.cell?_setCell_same _ _ _ k0)
  have m1 : w2.cell? ⟨U, 1, none⟩ = some (.slice none 0 0) := (hb2.cell (p := ⟨U, 1, none⟩) (by show U < _; omega)).trans ((World.cell?_setCell_other _ ⟨U, 0, none⟩ ⟨U, 1, none⟩ _ (by simp)).trans k1)
  have n1 : w2.frozen? ⟨U, 1, none⟩ = false := (hb2.frozen (p := ⟨U, 1, none⟩) (by show U < _; omega)).trans (by simpa using l1)
  have mg : w2.cell? ⟨g, 0, none⟩ = some (.int .i64 r) := (hb2.cell (p := ⟨g, 0, none⟩) hgs).trans ((World.cell?_setCell_other _ ⟨U, 0, none⟩ ⟨g, 0, none⟩ _ (by intro e; exact hgB (Addr.mk.inj e).1.symm)).trans hcell)
  have hg2U : g2 ≠ U := by omega
  have hB1 : But U [⟨U, 0, none⟩, ⟨U, 1, none⟩] w (w1.setCell ⟨U, 0, none⟩ (.slice (some ⟨g, 0, none⟩) 1 cap)) := (But.of_below hb (by omega)).setCell _ _ (by simp) (Nat.le_refl _)
  have hB2 : But U [⟨U, 0, none⟩, ⟨U, 1, none⟩] w w2 := hB1.trans (But.of_below (ps := []) (by simpa using hb2) (by simp; omega)) (fun _ h => h) (fun _ h => by cases h)
  rw [hv2]
  clear hown2 hgrow2 hv2 hb hb2 k0 k1 l0 l1 hcell hB1
  go_wp2
  go_end0
  refine ⟨rfl, ⟨g, cap, ?_, ?_⟩, ⟨g2, cap2, World.cell?_setCell_same _ _ _ m1, ?_⟩, hB2.setCell _ _ (by simp) (Nat.le_refl _)⟩
  · exact (World.cell?_setCell_other _ ⟨U, 1, none⟩ ⟨U, 0, none⟩ _ (by simp)).trans m0
  · exact (World.cell?_setCell_other _ ⟨U, 1, none⟩ ⟨g, 0, none⟩ _ (by intro e; exact hgB (Addr.mk.inj e).1.symm)).trans mg
  · exact (World.cell?_setCell_other _ ⟨U, 1, none⟩ ⟨g2, 0, none⟩ _ (by intro e; exact hg2U (Addr.mk.inj e).1.symm)).trans hcell2
end Go.Proofs.YbulkaqtiFmt
