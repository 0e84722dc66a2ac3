/-
  THE LAW's ENVIRONMENT (Send, Start) by contracts.
-/
import Derived.Test.YbulkaqtiFmtMarsh3
import Derived.Deep.RegionHeld3
import Derived.Deep.RegionLaw
namespace Go.Proofs.YbulkaqtiFmt
open Go.RowKit
set_option linter.unusedVariables false

theorem eql31 (g n c : Nat) (w : World) : (binOp .eql 31 (.slice (some ⟨g, 0, none⟩) n c) (.slice none 0 0)).run Ybaf.prog w = .ok (.bool false) w := by kernel_rfl
theorem neq31 (g n c : Nat) (w : World) : (binOp .neq 31 (.slice (some ⟨g, 0, none⟩) n c) (.slice none 0 0)).run Ybaf.prog w = .ok (.bool true) w := by kernel_rfl
theorem info31 : (Ybaf.prog.info? 31).map (fun i => (i.zero, i.size, i.bytes)) = some (some (.slice none 0 0), 1, 24) := by kernel_rfl
theorem info75 : (Ybaf.prog.info? 75).map (fun i => (i.zero, i.size, i.bytes)) = some (some (.int .i64 0), 1, 8) := by kernel_rfl

theorem news_cell1 {w : World} {g : Nat} {u : Value} (h : w.cell? ⟨g, 0, none⟩ = some u) : ∀ j x, [u][j]? = some x → w.cell? ((⟨g, 0, none⟩ : Addr).add j) = some x := by
  intro j x hj
  match j, hj with
  | 0, hj => simp at hj; subst hj; exact h

set_option maxHeartbeats 1000000 in
set_option maxRecDepth 100000 in
theorem clone1 (g : Nat) (x : Int) (w : World) (hc : w.cell? ⟨g, 0, none⟩ = some (.int .u8 x)) :
    Calls Ybaf.prog 30 #[.slice (some ⟨g, 0, none⟩) 1 1] w fun e w' => ∃ G c, e = .returned (.slice (some ⟨G, 0, none⟩) 1 c) ∧ w.heap.size ≤ G ∧ G < w'.heap.size ∧ w'.cell? ⟨G, 0, none⟩ = some (.int .u8 x) ∧ Below w.heap.size w w' := by
  have hg : g < w.heap.size := World.block_lt_of_cell? _ _ hc
  have ee := eql31 g 1 1
  obtain ⟨i0, hi, hz0, hz1, hz2⟩ := info_parts info5
  have HO : Hid ((w.alloc (.cells #[] 5)).ownsRow w.heap.size 5 1 (.slice (some ⟨w.heap.size, 0, none⟩) 0 0) 0 []) := World.ownsRow_lit w #[] 0 (Nat.le_refl _) (small_max _ (by decide)) rfl
  have hb0 : Below w.heap.size w (w.alloc (.cells #[] 5)) := (Below.refl _ _).alloc (Nat.le_refl _) _
  have HN : Hid (∀ j u, [Value.int .u8 x][j]? = some u → (w.alloc (.cells #[] 5)).cell? ((⟨g, 0, none⟩ : Addr).add j) = some u) := news_cell1 ((hb0.cell (p := ⟨g, 0, none⟩) hg).trans hc)
  clear hb0
  go_enter Ybaf.func30, Ybaf.ntmps30
  go_wp2_with (at_builtin; refine wpList_append_own _ rfl (.tmp 5) (.tmp 6) 31 rfl w.heap.size 5 i0 (.int .u8 0) 1 1 Ybaf.underlying31 hi hz0 hz1 hz2 rfl (by decide) _ _ _ rfl HO.out ⟨g, 0, none⟩ 1 1 [.int .u8 x] rfl rfl HN.out (one_one _ rfl) (small_max _ (by decide)) (by decide) (by simp) ?_)
  intro v' w1 hown hgrow _
  obtain ⟨G, cap, hv, hG, hcell⟩ := one_of_owns hown
  subst hv
  have hlt : G < w1.heap.size := World.block_lt_of_cell? _ _ hcell
  have HB : Hid (Below w.heap.size w w1) := ((Below.refl _ _).alloc (Nat.le_refl _) _).grown hgrow (by simp) (own_ge HO.out)
  clear hown hgrow HO HN
  go_wp2
  go_ret
  exact ⟨G, cap, rfl, hG, hlt, hcell, HB.out⟩

/-- the environment E has seen one Send, of the one byte x -/
def Sent (w : World) (E lo : Nat) (x : Int) : Prop := ∃ g c G C, lo ≤ g ∧ lo ≤ G ∧ w.cell? ⟨E, 0, none⟩ = some (.slice (some ⟨g, 0, none⟩) 1 c) ∧ w.cell? ⟨g, 0, none⟩ = some (.slice (some ⟨G, 0, none⟩) 1 C) ∧ w.cell? ⟨G, 0, none⟩ = some (.int .u8 x)
/-- .. and one Start, of the timer t -/
def Started (w : World) (E lo : Nat) (t : Int) : Prop := ∃ g c, lo ≤ g ∧ w.cell? ⟨E, 1, none⟩ = some (.slice (some ⟨g, 0, none⟩) 1 c) ∧ w.cell? ⟨g, 0, none⟩ = some (.int .i64 t)
theorem Sent.but {w w' : World} {E lo B : Nat} {x : Int} {ps : List Addr} (h : Sent w E lo x) (hb : But B ps w w') (hE : (⟨E, 0, none⟩ : Addr) ∉ ps) (hlo : ∀ a ∈ ps, a.block < lo) : Sent w' E lo x := by
  obtain ⟨g, c, G, C, h1, h2, h3, h4, h5⟩ := h
  exact ⟨g, c, G, C, h1, h2, (hb.cell _ (World.block_lt_of_cell? _ _ h3) hE).trans h3, (hb.cell _ (World.block_lt_of_cell? _ _ h4) (fun hm => Nat.not_lt_of_le h1 (hlo _ hm))).trans h4, (hb.cell _ (World.block_lt_of_cell? _ _ h5) (fun hm => Nat.not_lt_of_le h2 (hlo _ hm))).trans h5⟩
theorem Started.but {w w' : World} {E lo B : Nat} {x : Int} {ps : List Addr} (h : Started w E lo x) (hb : But B ps w w') (hE : (⟨E, 1, none⟩ : Addr) ∉ ps) (hlo : ∀ a ∈ ps, a.block < lo) : Started w' E lo x := by
  obtain ⟨g, c, h1, h3, h4⟩ := h
  exact ⟨g, c, h1, (hb.cell _ (World.block_lt_of_cell? _ _ h3) hE).trans h3, (hb.cell _ (World.block_lt_of_cell? _ _ h4) (fun hm => Nat.not_lt_of_le h1 (hlo _ hm))).trans h4⟩
theorem Sent.lower {w : World} {E lo lo' : Nat} {x : Int} (h : Sent w E lo x) (hl : lo' ≤ lo) : Sent w E lo' x := by
  obtain ⟨g, c, G, C, h1, h2, h3⟩ := h
  exact ⟨g, c, G, C, by omega, by omega, h3⟩
theorem Started.lower {w : World} {E lo lo' : Nat} {x : Int} (h : Started w E lo x) (hl : lo' ≤ lo) : Started w E lo' x := by
  obtain ⟨g, c, h1, h3⟩ := h
  exact ⟨g, c, by omega, h3⟩

set_option maxHeartbeats 2000000 in
set_option maxRecDepth 100000 in
theorem start75 (E : Nat) (t d : Int) (w : World) (hE : w.cell? ⟨E, 1, none⟩ = some (.slice none 0 0)) (fE : w.frozen? ⟨E, 1, none⟩ = false) :
    Calls Ybaf.prog 75 #[.pointer (some ⟨E, 0, none⟩), .int .i64 t, .int .i64 d] w fun e w' => e = .returned (.tuple #[]) ∧ Started w' E w.heap.size t ∧ But E [⟨E, 1, none⟩] w w' := by
  obtain ⟨i0, hi, hz0, hz1, hz2⟩ := info_parts info75
  have hB : E < w.heap.size := World.block_lt_of_cell? _ _ hE
  go_enter Ybaf.func75, Ybaf.ntmps75
  go_wp2_with (at_builtin; refine wpList_append_own _ rfl (.tmp 10) (.tmp 12) 69 rfl w.heap.size 75 i0 (.int .i64 0) 1 8 Ybaf.underlying69 hi hz0 hz1 hz2 rfl (by decide) _ _ _ rfl (World.ownsRow_nil _ _ _ _) ⟨w.heap.size, 0, none⟩ 1 1 [.int .i64 t] rfl rfl (news_one _ _ _ _ rfl) (one_one _ rfl) (small_max _ (by decide)) (by decide) (by simp) ?_)
  intro v' w1 hown hgrow _
  obtain ⟨g, cap, hv, hg, hcell⟩ := one_of_owns hown
  have hb : Below w.heap.size w w1 := ((Below.refl _ _).alloc (Nat.le_refl _) _).grown hgrow (by simp) (fun k hk => by cases hk)
  have hc1 : w1.cell? ⟨E, 1, none⟩ = some (.slice none 0 0) := (hb.cell (p := ⟨E, 1, none⟩) hB).trans hE
  have hf1 : w1.frozen? ⟨E, 1, none⟩ = false := (hb.frozen (p := ⟨E, 1, none⟩) hB).trans fE
  have hgB : g ≠ E := by omega
  rw [hv]
  clear hown hgrow hv hE fE
  go_wp2
  go_end0
  refine ⟨rfl, ⟨g, cap, hg, World.cell?_setCell_same _ _ _ hc1, ?_⟩, (But.of_below hb (by omega)).setCell _ _ (by simp) (Nat.le_refl _)⟩
  exact (World.cell?_setCell_other _ ⟨E, 1, none⟩ ⟨g, 0, none⟩ _ (by intro e; exact hgB (Addr.mk.inj e).1.symm)).trans hcell

set_option maxHeartbeats 2000000 in
set_option maxRecDepth 100000 in
theorem send74 (E g : Nat) (x : Int) (w : World) (hE : w.cell? ⟨E, 0, none⟩ = some (.slice none 0 0)) (fE : w.frozen? ⟨E, 0, none⟩ = false) (hx : w.cell? ⟨g, 0, none⟩ = some (.int .u8 x)) :
    Calls Ybaf.prog 74 #[.pointer (some ⟨E, 0, none⟩), .slice (some ⟨g, 0, none⟩) 1 1] w fun e w' => e = .returned (.tuple #[]) ∧ Sent w' E w.heap.size x ∧ But E [⟨E, 0, none⟩] w w' := by
  obtain ⟨i0, hi, hz0, hz1, hz2⟩ := info_parts info31
  have hB : E < w.heap.size := World.block_lt_of_cell? _ _ hE
  go_enter Ybaf.func74, Ybaf.ntmps74
  go_region_law
    ((first
      | (go_simp; go_at_call 30; refine (clone1 g x _ (by exact hx)).mono ?_; rintro e w1 ⟨G, C, rfl, hG, hG1, hGc, hb1⟩; have k0 := (hb1.cell (p := ⟨E, 0, none⟩) (by exact hB)).trans hE; have hE1 : E < w1.heap.size := Nat.lt_of_lt_of_le hB hb1.size)
      | (refine step_append_lies _ (by rfl) (.tmp 8) (.tmp 11) 68 (by rfl) w.heap.size 31 i0 (.slice none 0 0) 1 24 Ybaf.underlying68 hi hz0 hz1 hz2 rfl (by decide) (.slice none 0 0) 0 [] (by rfl) (World.ownsRow_nil _ _ _ _)
          ⟨w1.heap.size, 0, none⟩ 1 1 [.slice (some ⟨G, 0, none⟩) 1 C] (by rfl) (by rfl) (news_one _ _ _ _ (by simp)) (one_one _ rfl) (by decide) (small_max _ (by decide)) (by decide) (by have := hb1.size; simp at this ⊢; omega) (w1.heap.size + 1) (by simp) ?_; intro g2 cap2 w2 hown2 hgrow2 hat2 hlt2
         have hb2 := ((Below.refl w1.heap.size w1).alloc (Nat.le_refl _) _).grown hgrow2 (by simp) (fun k hk => by cases hk)
         have m0 := (hb2.cell (p := ⟨E, 0, none⟩) (by exact Nat.lt_of_lt_of_le hB hb1.size)).trans k0
         have m1 := ((hb2.frozen (p := ⟨E, 0, none⟩) (by exact Nat.lt_of_lt_of_le hB hb1.size)).trans (hb1.frozen (p := ⟨E, 0, none⟩) (by exact hB))).trans fE)))
  all_goals
    go_end0
    have hGs : w.heap.size ≤ G := hG
    obtain ⟨g3, cap3, hv3, hg3, hcell3⟩ := one_of_owns hown2
    simp only [Value.slice.injEq, Option.some.injEq, Addr.mk.injEq] at hv3
    obtain ⟨⟨rfl, _⟩, _, rfl⟩ := hv3
    have hgE : g2 ≠ E := by omega
    have hGE : G ≠ E := by omega
    have hb12 : Below w.heap.size w w2 := (⟨hb1.os, hb1.tape, hb1.output, hb1.size, hb1.block⟩ : Below w.heap.size w w1).trans (hb2.mono hb1.size)
    refine ⟨rfl, ⟨g2, cap2, G, C, hg3, hGs, World.cell?_setCell_same _ _ _ m0, ?_, ?_⟩, (But.of_below hb12 (by omega)).setCell _ _ (by simp) (Nat.le_refl _)⟩
    · exact (World.cell?_setCell_other _ ⟨E, 0, none⟩ ⟨g2, 0, none⟩ _ (by intro e; exact hgE (Addr.mk.inj e).1.symm)).trans hcell3
    · exact (World.cell?_setCell_other _ ⟨E, 0, none⟩ ⟨G, 0, none⟩ _ (by intro e; exact hGE (Addr.mk.inj e).1.symm)).trans ((hb2.cell (p := ⟨G, 0, none⟩) hG1).trans hGc)
end Go.Proofs.YbulkaqtiFmt
