/-
  sendEnded ON THE TWO ROADS THAT THE LAW LawS2114CEnd TAKES (the message's send has ended: sent with nothing left in the queue, or failed), with and without callbacks, with and without an upper layer: eight contracts, made by one pattern.
-/
import Derived.Test.YbulkaqtiFmtLogs
import Derived.Laws.EntriesVeiled
namespace Go.Proofs.YbulkaqtiFmt
open Go.RowKit
set_option linter.unusedVariables false

/-- the method's name, by its bytes -/
def nmSent : String := String.ofList ([101, 120, 97, 109, 112, 108, 101, 46, 99, 111, 109, 47, 108, 111, 99, 107, 115, 116, 101, 112, 47, 108, 111, 99, 107, 115, 116, 101, 112, 47, 115, 101, 99, 115, 49, 46, 109, 101, 115, 115, 97, 103, 101, 83, 101, 110, 116].map Char.ofNat)
theorem meth_sent (U : Nat) (w : World) : (method 251 63 (.pointer (some ⟨U, 0, none⟩)) nmSent).run Ybaf.prog w = .ok (73, .pointer (some ⟨U, 0, none⟩)) w := by kernel_rfl
theorem neq_f11 (L : Nat) (w : World) : (binOp .neq 28 (.func (Fn.func 11) #[] #[.pointer (some ⟨L, 0, none⟩)]) .nilFunc).run Ybaf.prog w = .ok (.bool true) w := by kernel_rfl
theorem neq_f12 (L : Nat) (w : World) : (binOp .neq 28 (.func (Fn.func 12) #[] #[.pointer (some ⟨L, 0, none⟩)]) .nilFunc).run Ybaf.prog w = .ok (.bool true) w := by kernel_rfl
theorem neq_fnil (w : World) : (binOp .neq 28 .nilFunc .nilFunc).run Ybaf.prog w = .ok (.bool false) w := by kernel_rfl
theorem neq_up (U : Nat) (w : World) : (binOp .neq 59 (.iface 63 (.pointer (some ⟨U, 0, none⟩))) .nilIface).run Ybaf.prog w = .ok (.bool true) w := by kernel_rfl
theorem neq_upnil (w : World) : (binOp .neq 59 .nilIface .nilIface).run Ybaf.prog w = .ok (.bool false) w := by kernel_rfl

theorem One.but {w w' : World} {a : Addr} {v : Value} {B : Nat} {ps : List Addr} (h : One w a v) (hb : But B ps w w') (ha : a ∉ ps) (hg : ∀ g : Nat, w.cell? ⟨g, 0, none⟩ = some v → (⟨g, 0, none⟩ : Addr) ∉ ps) : One w' a v := by
  obtain ⟨g, cap, h1, h2⟩ := h
  exact ⟨g, cap, (hb.cell _ (World.block_lt_of_cell? _ _ h1) ha).trans h1, (hb.cell _ (World.block_lt_of_cell? _ _ h2) (hg g h2)).trans h2⟩
theorem but_store {B : Nat} {ps : List Addr} {w : World} (a : Addr) (v : Value) (ha : a ∈ ps) (hB : B ≤ a.block) (hs : a.block < w.heap.size) : But B ps w (w.setCell a v) :=
  (But.of_below (Below.refl _ _) (by omega)).setCell a v ha hB

set_option maxHeartbeats 1000000 in
set_option maxRecDepth 100000 in
theorem ended_tcu (M B L U : Nat) (env : Value) (r0 ret : Int) (qa : Option Addr) (qc : Nat) (w : World) (hB : B ≤ M) (c24 : w.cell? ⟨M, 24, none⟩ = some (.int .i64 r0)) (f24 : w.frozen? ⟨M, 24, none⟩ = false) (c23 : w.cell? ⟨M, 23, none⟩ = some (.slice qa 0 qc)) (c20 : w.cell? ⟨M, 20, none⟩ = some (.func (Fn.func 11) #[] #[.pointer (some ⟨L, 0, none⟩)])) (c22 : w.cell? ⟨M, 22, none⟩ = some (.iface 63 (.pointer (some ⟨U, 0, none⟩)))) (hL : w.cell? ⟨L, 0, none⟩ = some (.slice none 0 0)) (fL : w.frozen? ⟨L, 0, none⟩ = false) (hLM : L ≠ M) (hBL : B ≤ L) (hU0 : w.cell? ⟨U, 0, none⟩ = some (.slice none 0 0)) (hU1 : w.cell? ⟨U, 1, none⟩ = some (.slice none 0 0)) (fU0 : w.frozen? ⟨U, 0, none⟩ = false) (fU1 : w.frozen? ⟨U, 1, none⟩ = false) (hUM : U ≠ M) (hBU : B ≤ U) (hUL : U ≠ L) :
    Calls Ybaf.prog 13 #[.pointer (some ⟨M, 0, none⟩), env, .int .i64 ret, .bool true] w fun e w' => e = .returned (.tuple #[]) ∧ w'.cell? ⟨M, 24, none⟩ = some (.int .i64 (wrap64 (r0 + ret))) ∧ One w' ⟨L, 0, none⟩ (.int .i64 (wrap64 (r0 + ret))) ∧ One w' ⟨U, 0, none⟩ (.int .i64 (wrap64 (r0 + ret))) ∧ One w' ⟨U, 1, none⟩ (.bool true) ∧ But B [⟨M, 24, none⟩, ⟨L, 0, none⟩, ⟨U, 0, none⟩, ⟨U, 1, none⟩] w w' := by
  generalize ht : wrap64 (r0 + ret) = tot
  have nf := neq_f11 L
  have nup := neq_up U
  have hmeth := meth_sent U
  obtain ⟨nm, hnm⟩ : ∃ s, s = nmSent := ⟨_, rfl⟩
  rw [← hnm] at hmeth
  unfold nmSent at hnm
  simp at hnm
  subst hnm
  have hMs : M < w.heap.size := World.block_lt_of_cell? _ _ c24
  have hLs : L < w.heap.size := World.block_lt_of_cell? _ _ hL
  have hUs : U < w.heap.size := World.block_lt_of_cell? _ _ hU0
  have HB0 : Hid (But B [⟨M, 24, none⟩, ⟨L, 0, none⟩, ⟨U, 0, none⟩, ⟨U, 1, none⟩] w (w.setCell ⟨M, 24, none⟩ (.int .i64 tot))) := but_store _ _ (by simp) hB hMs
  have k24 : (w.setCell ⟨M, 24, none⟩ (.int .i64 tot)).cell? ⟨M, 24, none⟩ = some (.int .i64 tot) := World.cell?_setCell_same _ _ _ c24
  have k20 := (World.cell?_setCell_other w ⟨M, 24, none⟩ ⟨M, 20, none⟩ (.int .i64 tot) (by simp)).trans c20
  have k22 := (World.cell?_setCell_other w ⟨M, 24, none⟩ ⟨M, 22, none⟩ (.int .i64 tot) (by simp)).trans c22
  have kL := (World.cell?_setCell_other w ⟨M, 24, none⟩ ⟨L, 0, none⟩ (.int .i64 tot) (by simp)).trans hL
  have gL : (w.setCell ⟨M, 24, none⟩ (.int .i64 tot)).frozen? ⟨L, 0, none⟩ = false := by simpa using fL
  have kU0 := (World.cell?_setCell_other w ⟨M, 24, none⟩ ⟨U, 0, none⟩ (.int .i64 tot) (by simp)).trans hU0
  have kU1 := (World.cell?_setCell_other w ⟨M, 24, none⟩ ⟨U, 1, none⟩ (.int .i64 tot) (by simp)).trans hU1
  have gU0 : (w.setCell ⟨M, 24, none⟩ (.int .i64 tot)).frozen? ⟨U, 0, none⟩ = false := by simpa using fU0
  have gU1 : (w.setCell ⟨M, 24, none⟩ (.int .i64 tot)).frozen? ⟨U, 1, none⟩ = false := by simpa using fU1
  have hsz : (w.setCell ⟨M, 24, none⟩ (.int .i64 tot)).heap.size = w.heap.size := by simp
  go_enter Ybaf.func13, Ybaf.ntmps13
  go_wp2_with fail
  clear c24 f24 c23 c20 c22 hL fL hU0 hU1 fU0 fU1
  generalize w.setCell ⟨M, 24, none⟩ (.int .i64 tot) = W at *
  have hMW : M < W.heap.size := by omega
  have nL1 : (⟨M, 20, none⟩ : Addr) ∉ [(⟨L, 0, none⟩ : Addr)] := by simp
  have nL2 : (⟨M, 24, none⟩ : Addr) ∉ [(⟨L, 0, none⟩ : Addr)] := by simp
  go_region_held (fun w' => w'.cell? ⟨M, 20, none⟩ = some (.func (Fn.func 11) #[] #[.pointer (some ⟨L, 0, none⟩)]) ∧ w'.cell? ⟨M, 24, none⟩ = some (.int .i64 tot)) (go_keep) ((go_at_call 11; refine (log11 tot L _ (by exact kL) (by exact gL)).mono ?_; rintro e w1 ⟨rfl, hone, hbut⟩; have q20 := (hbut.cell ⟨M, 20, none⟩ (by exact hMW) (by exact nL1)).trans k20; have q24 := (hbut.cell ⟨M, 24, none⟩ (by exact hMW) (by exact nL2)).trans k24))
  have p22 := (hbut.cell ⟨M, 22, none⟩ (by exact hMW) (by simp)).trans k22
  have pU0 := (hbut.cell ⟨U, 0, none⟩ (by show U < W.heap.size; omega) (by simp <;> exact hUL)).trans kU0
  have pU1 := (hbut.cell ⟨U, 1, none⟩ (by show U < W.heap.size; omega) (by simp)).trans kU1
  have fU0 := (hbut.frozen ⟨U, 0, none⟩ (by show U < W.heap.size; omega)).trans gU0
  have fU1 := (hbut.frozen ⟨U, 1, none⟩ (by show U < W.heap.size; omega)).trans gU1
  have hs1 : W.heap.size ≤ w1.heap.size := hbut.size
  have HO : Hid (One w1 ⟨L, 0, none⟩ (.int .i64 tot)) := hone
  have HB1 : Hid (But B [⟨M, 24, none⟩, ⟨L, 0, none⟩, ⟨U, 0, none⟩, ⟨U, 1, none⟩] w w1) := HB0.out.trans (qs := [⟨L, 0, none⟩]) (hbut.undrew.lower hBL) (fun _ h => h) (fun _ h => by simp at h; subst h; simp)
  clear hone hbut HB0 k24 k20 k22 kL gL q20 nf nL1 nL2 kU0 kU1 gU0 gU1
  go_wp2_with fail
  have hMW1 : M < w1.heap.size := by omega
  have nU1 : (⟨M, 22, none⟩ : Addr) ∉ [(⟨U, 0, none⟩ : Addr), ⟨U, 1, none⟩] := by simp
  have nU2 : (⟨M, 24, none⟩ : Addr) ∉ [(⟨U, 0, none⟩ : Addr), ⟨U, 1, none⟩] := by simp
  go_region_held (fun w' => w'.cell? ⟨M, 22, none⟩ = some (.iface 63 (.pointer (some ⟨U, 0, none⟩))) ∧ w'.cell? ⟨M, 24, none⟩ = some (.int .i64 tot)) (go_keep) ((go_at_call 73; refine (sent73 tot true U env _ (by exact pU0) (by exact pU1) (by exact fU0) (by exact fU1)).mono ?_; rintro e w2 ⟨rfl, ho0, ho1, hbut⟩; have r22 := (hbut.cell ⟨M, 22, none⟩ (by exact hMW1) (by exact nU1)).trans p22; have r24 := (hbut.cell ⟨M, 24, none⟩ (by exact hMW1) (by exact nU2)).trans q24))
  have HO2 : Hid (One w2 ⟨L, 0, none⟩ (.int .i64 tot)) := HO.out.but hbut.undrew (by simp <;> exact fun h => hUL h.symm) (fun g hg hm => by
    simp at hm
    subst hm
    rw [pU0] at hg; simp at hg)
  have HB2 : Hid (But B [⟨M, 24, none⟩, ⟨L, 0, none⟩, ⟨U, 0, none⟩, ⟨U, 1, none⟩] w w2) := HB1.out.trans (qs := [⟨U, 0, none⟩, ⟨U, 1, none⟩]) (hbut.undrew.lower hBU) (fun _ h => h) (fun _ h => by simp at h; rcases h with h | h <;> (subst h; simp))
  go_wp2
  go_end0
  exact ⟨rfl, r24, HO2.out, ho0, ho1, HB2.out⟩

set_option maxHeartbeats 1000000 in
set_option maxRecDepth 100000 in
theorem ended_tcn (M B L : Nat) (env : Value) (r0 ret : Int) (qa : Option Addr) (qc : Nat) (w : World) (hB : B ≤ M) (c24 : w.cell? ⟨M, 24, none⟩ = some (.int .i64 r0)) (f24 : w.frozen? ⟨M, 24, none⟩ = false) (c23 : w.cell? ⟨M, 23, none⟩ = some (.slice qa 0 qc)) (c20 : w.cell? ⟨M, 20, none⟩ = some (.func (Fn.func 11) #[] #[.pointer (some ⟨L, 0, none⟩)])) (c22 : w.cell? ⟨M, 22, none⟩ = some (.nilIface)) (hL : w.cell? ⟨L, 0, none⟩ = some (.slice none 0 0)) (fL : w.frozen? ⟨L, 0, none⟩ = false) (hLM : L ≠ M) (hBL : B ≤ L) :
    Calls Ybaf.prog 13 #[.pointer (some ⟨M, 0, none⟩), env, .int .i64 ret, .bool true] w fun e w' => e = .returned (.tuple #[]) ∧ w'.cell? ⟨M, 24, none⟩ = some (.int .i64 (wrap64 (r0 + ret))) ∧ One w' ⟨L, 0, none⟩ (.int .i64 (wrap64 (r0 + ret))) ∧ But B [⟨M, 24, none⟩, ⟨L, 0, none⟩] w w' := by
  generalize ht : wrap64 (r0 + ret) = tot
  have nf := neq_f11 L
  have nup := neq_upnil
  have hMs : M < w.heap.size := World.block_lt_of_cell? _ _ c24
  have hLs : L < w.heap.size := World.block_lt_of_cell? _ _ hL
  have HB0 : Hid (But B [⟨M, 24, none⟩, ⟨L, 0, none⟩] w (w.setCell ⟨M, 24, none⟩ (.int .i64 tot))) := but_store _ _ (by simp) hB hMs
  have k24 : (w.setCell ⟨M, 24, none⟩ (.int .i64 tot)).cell? ⟨M, 24, none⟩ = some (.int .i64 tot) := World.cell?_setCell_same _ _ _ c24
  have k20 := (World.cell?_setCell_other w ⟨M, 24, none⟩ ⟨M, 20, none⟩ (.int .i64 tot) (by simp)).trans c20
  have k22 := (World.cell?_setCell_other w ⟨M, 24, none⟩ ⟨M, 22, none⟩ (.int .i64 tot) (by simp)).trans c22
  have kL := (World.cell?_setCell_other w ⟨M, 24, none⟩ ⟨L, 0, none⟩ (.int .i64 tot) (by simp)).trans hL
  have gL : (w.setCell ⟨M, 24, none⟩ (.int .i64 tot)).frozen? ⟨L, 0, none⟩ = false := by simpa using fL
  have hsz : (w.setCell ⟨M, 24, none⟩ (.int .i64 tot)).heap.size = w.heap.size := by simp
  go_enter Ybaf.func13, Ybaf.ntmps13
  go_wp2_with fail
  clear c24 f24 c23 c20 c22 hL fL
  generalize w.setCell ⟨M, 24, none⟩ (.int .i64 tot) = W at *
  have hMW : M < W.heap.size := by omega
  have nL1 : (⟨M, 20, none⟩ : Addr) ∉ [(⟨L, 0, none⟩ : Addr)] := by simp
  have nL2 : (⟨M, 24, none⟩ : Addr) ∉ [(⟨L, 0, none⟩ : Addr)] := by simp
  go_region_held (fun w' => w'.cell? ⟨M, 20, none⟩ = some (.func (Fn.func 11) #[] #[.pointer (some ⟨L, 0, none⟩)]) ∧ w'.cell? ⟨M, 24, none⟩ = some (.int .i64 tot)) (go_keep) ((go_at_call 11; refine (log11 tot L _ (by exact kL) (by exact gL)).mono ?_; rintro e w1 ⟨rfl, hone, hbut⟩; have q20 := (hbut.cell ⟨M, 20, none⟩ (by exact hMW) (by exact nL1)).trans k20; have q24 := (hbut.cell ⟨M, 24, none⟩ (by exact hMW) (by exact nL2)).trans k24))
  have p22 := (hbut.cell ⟨M, 22, none⟩ (by exact hMW) (by simp)).trans k22
  have hs1 : W.heap.size ≤ w1.heap.size := hbut.size
  have HO : Hid (One w1 ⟨L, 0, none⟩ (.int .i64 tot)) := hone
  have HB1 : Hid (But B [⟨M, 24, none⟩, ⟨L, 0, none⟩] w w1) := HB0.out.trans (qs := [⟨L, 0, none⟩]) (hbut.undrew.lower hBL) (fun _ h => h) (fun _ h => by simp at h; subst h; simp)
  clear hone hbut HB0 k24 k20 k22 kL gL q20 nf nL1 nL2
  go_wp2_with fail
  go_end0
  exact ⟨rfl, q24, HO.out, HB1.out⟩

set_option maxHeartbeats 1000000 in
set_option maxRecDepth 100000 in
theorem ended_tnu (M B U : Nat) (env : Value) (r0 ret : Int) (qa : Option Addr) (qc : Nat) (w : World) (hB : B ≤ M) (c24 : w.cell? ⟨M, 24, none⟩ = some (.int .i64 r0)) (f24 : w.frozen? ⟨M, 24, none⟩ = false) (c23 : w.cell? ⟨M, 23, none⟩ = some (.slice qa 0 qc)) (c20 : w.cell? ⟨M, 20, none⟩ = some (.nilFunc)) (c22 : w.cell? ⟨M, 22, none⟩ = some (.iface 63 (.pointer (some ⟨U, 0, none⟩)))) (hU0 : w.cell? ⟨U, 0, none⟩ = some (.slice none 0 0)) (hU1 : w.cell? ⟨U, 1, none⟩ = some (.slice none 0 0)) (fU0 : w.frozen? ⟨U, 0, none⟩ = false) (fU1 : w.frozen? ⟨U, 1, none⟩ = false) (hUM : U ≠ M) (hBU : B ≤ U) :
    Calls Ybaf.prog 13 #[.pointer (some ⟨M, 0, none⟩), env, .int .i64 ret, .bool true] w fun e w' => e = .returned (.tuple #[]) ∧ w'.cell? ⟨M, 24, none⟩ = some (.int .i64 (wrap64 (r0 + ret))) ∧ One w' ⟨U, 0, none⟩ (.int .i64 (wrap64 (r0 + ret))) ∧ One w' ⟨U, 1, none⟩ (.bool true) ∧ But B [⟨M, 24, none⟩, ⟨U, 0, none⟩, ⟨U, 1, none⟩] w w' := by
  generalize ht : wrap64 (r0 + ret) = tot
  have nf := neq_fnil
  have nup := neq_up U
  have hmeth := meth_sent U
  obtain ⟨nm, hnm⟩ : ∃ s, s = nmSent := ⟨_, rfl⟩
  rw [← hnm] at hmeth
  unfold nmSent at hnm
  simp at hnm
  subst hnm
  have hMs : M < w.heap.size := World.block_lt_of_cell? _ _ c24
  have hUs : U < w.heap.size := World.block_lt_of_cell? _ _ hU0
  have HB0 : Hid (But B [⟨M, 24, none⟩, ⟨U, 0, none⟩, ⟨U, 1, none⟩] w (w.setCell ⟨M, 24, none⟩ (.int .i64 tot))) := but_store _ _ (by simp) hB hMs
  have k24 : (w.setCell ⟨M, 24, none⟩ (.int .i64 tot)).cell? ⟨M, 24, none⟩ = some (.int .i64 tot) := World.cell?_setCell_same _ _ _ c24
  have k20 := (World.cell?_setCell_other w ⟨M, 24, none⟩ ⟨M, 20, none⟩ (.int .i64 tot) (by simp)).trans c20
  have k22 := (World.cell?_setCell_other w ⟨M, 24, none⟩ ⟨M, 22, none⟩ (.int .i64 tot) (by simp)).trans c22
  have kU0 := (World.cell?_setCell_other w ⟨M, 24, none⟩ ⟨U, 0, none⟩ (.int .i64 tot) (by simp)).trans hU0
  have kU1 := (World.cell?_setCell_other w ⟨M, 24, none⟩ ⟨U, 1, none⟩ (.int .i64 tot) (by simp)).trans hU1
  have gU0 : (w.setCell ⟨M, 24, none⟩ (.int .i64 tot)).frozen? ⟨U, 0, none⟩ = false := by simpa using fU0
  have gU1 : (w.setCell ⟨M, 24, none⟩ (.int .i64 tot)).frozen? ⟨U, 1, none⟩ = false := by simpa using fU1
  have hsz : (w.setCell ⟨M, 24, none⟩ (.int .i64 tot)).heap.size = w.heap.size := by simp
  go_enter Ybaf.func13, Ybaf.ntmps13
  go_wp2_with fail
  clear c24 f24 c23 c20 c22 hU0 hU1 fU0 fU1
  generalize w.setCell ⟨M, 24, none⟩ (.int .i64 tot) = W at *
  have hMW : M < W.heap.size := by omega
  have nU1 : (⟨M, 22, none⟩ : Addr) ∉ [(⟨U, 0, none⟩ : Addr), ⟨U, 1, none⟩] := by simp
  have nU2 : (⟨M, 24, none⟩ : Addr) ∉ [(⟨U, 0, none⟩ : Addr), ⟨U, 1, none⟩] := by simp
  go_region_held (fun w' => w'.cell? ⟨M, 22, none⟩ = some (.iface 63 (.pointer (some ⟨U, 0, none⟩))) ∧ w'.cell? ⟨M, 24, none⟩ = some (.int .i64 tot)) (go_keep) ((go_at_call 73; refine (sent73 tot true U env _ (by exact kU0) (by exact kU1) (by exact gU0) (by exact gU1)).mono ?_; rintro e w2 ⟨rfl, ho0, ho1, hbut⟩; have r22 := (hbut.cell ⟨M, 22, none⟩ (by exact hMW) (by exact nU1)).trans k22; have r24 := (hbut.cell ⟨M, 24, none⟩ (by exact hMW) (by exact nU2)).trans k24))
  have HB2 : Hid (But B [⟨M, 24, none⟩, ⟨U, 0, none⟩, ⟨U, 1, none⟩] w w2) := HB0.out.trans (qs := [⟨U, 0, none⟩, ⟨U, 1, none⟩]) (hbut.undrew.lower hBU) (fun _ h => h) (fun _ h => by simp at h; rcases h with h | h <;> (subst h; simp))
  go_wp2
  go_end0
  exact ⟨rfl, r24, ho0, ho1, HB2.out⟩

set_option maxHeartbeats 1000000 in
set_option maxRecDepth 100000 in
theorem ended_tnn (M B : Nat) (env : Value) (r0 ret : Int) (qa : Option Addr) (qc : Nat) (w : World) (hB : B ≤ M) (c24 : w.cell? ⟨M, 24, none⟩ = some (.int .i64 r0)) (f24 : w.frozen? ⟨M, 24, none⟩ = false) (c23 : w.cell? ⟨M, 23, none⟩ = some (.slice qa 0 qc)) (c20 : w.cell? ⟨M, 20, none⟩ = some (.nilFunc)) (c22 : w.cell? ⟨M, 22, none⟩ = some (.nilIface)) :
    Calls Ybaf.prog 13 #[.pointer (some ⟨M, 0, none⟩), env, .int .i64 ret, .bool true] w fun e w' => e = .returned (.tuple #[]) ∧ w'.cell? ⟨M, 24, none⟩ = some (.int .i64 (wrap64 (r0 + ret))) ∧ But B [⟨M, 24, none⟩] w w' := by
  generalize ht : wrap64 (r0 + ret) = tot
  have nf := neq_fnil
  have nup := neq_upnil
  have hMs : M < w.heap.size := World.block_lt_of_cell? _ _ c24
  have HB0 : Hid (But B [⟨M, 24, none⟩] w (w.setCell ⟨M, 24, none⟩ (.int .i64 tot))) := but_store _ _ (by simp) hB hMs
  have k24 : (w.setCell ⟨M, 24, none⟩ (.int .i64 tot)).cell? ⟨M, 24, none⟩ = some (.int .i64 tot) := World.cell?_setCell_same _ _ _ c24
  have k20 := (World.cell?_setCell_other w ⟨M, 24, none⟩ ⟨M, 20, none⟩ (.int .i64 tot) (by simp)).trans c20
  have k22 := (World.cell?_setCell_other w ⟨M, 24, none⟩ ⟨M, 22, none⟩ (.int .i64 tot) (by simp)).trans c22
  have hsz : (w.setCell ⟨M, 24, none⟩ (.int .i64 tot)).heap.size = w.heap.size := by simp
  go_enter Ybaf.func13, Ybaf.ntmps13
  go_wp2_with fail
  clear c24 f24 c23 c20 c22
  generalize w.setCell ⟨M, 24, none⟩ (.int .i64 tot) = W at *
  have hMW : M < W.heap.size := by omega
  go_end0
  exact ⟨rfl, k24, HB0.out⟩

set_option maxHeartbeats 1000000 in
set_option maxRecDepth 100000 in
theorem ended_fcu (M B L U : Nat) (env : Value) (r0 ret : Int) (q0 : Value) (w : World) (hB : B ≤ M) (c24 : w.cell? ⟨M, 24, none⟩ = some (.int .i64 r0)) (f24 : w.frozen? ⟨M, 24, none⟩ = false) (c23 : w.cell? ⟨M, 23, none⟩ = some q0) (f23 : w.frozen? ⟨M, 23, none⟩ = false) (c20 : w.cell? ⟨M, 21, none⟩ = some (.func (Fn.func 12) #[] #[.pointer (some ⟨L, 0, none⟩)])) (c22 : w.cell? ⟨M, 22, none⟩ = some (.iface 63 (.pointer (some ⟨U, 0, none⟩)))) (hL : w.cell? ⟨L, 0, none⟩ = some (.slice none 0 0)) (fL : w.frozen? ⟨L, 0, none⟩ = false) (hLM : L ≠ M) (hBL : B ≤ L) (hU0 : w.cell? ⟨U, 0, none⟩ = some (.slice none 0 0)) (hU1 : w.cell? ⟨U, 1, none⟩ = some (.slice none 0 0)) (fU0 : w.frozen? ⟨U, 0, none⟩ = false) (fU1 : w.frozen? ⟨U, 1, none⟩ = false) (hUM : U ≠ M) (hBU : B ≤ U) (hUL : U ≠ L) :
    Calls Ybaf.prog 13 #[.pointer (some ⟨M, 0, none⟩), env, .int .i64 ret, .bool false] w fun e w' => e = .returned (.tuple #[]) ∧ w'.cell? ⟨M, 24, none⟩ = some (.int .i64 (wrap64 (r0 + ret))) ∧ w'.cell? ⟨M, 23, none⟩ = some (.slice none 0 0) ∧ One w' ⟨L, 0, none⟩ (.int .i64 (wrap64 (r0 + ret))) ∧ One w' ⟨U, 0, none⟩ (.int .i64 (wrap64 (r0 + ret))) ∧ One w' ⟨U, 1, none⟩ (.bool false) ∧ But B [⟨M, 24, none⟩, ⟨M, 23, none⟩, ⟨L, 0, none⟩, ⟨U, 0, none⟩, ⟨U, 1, none⟩] w w' := by
  generalize ht : wrap64 (r0 + ret) = tot
  have nf := neq_f12 L
  have nup := neq_up U
  have hmeth := meth_sent U
  obtain ⟨nm, hnm⟩ : ∃ s, s = nmSent := ⟨_, rfl⟩
  rw [← hnm] at hmeth
  unfold nmSent at hnm
  simp at hnm
  subst hnm
  have hMs : M < w.heap.size := World.block_lt_of_cell? _ _ c24
  have hLs : L < w.heap.size := World.block_lt_of_cell? _ _ hL
  have hUs : U < w.heap.size := World.block_lt_of_cell? _ _ hU0
  have HB0 : Hid (But B [⟨M, 24, none⟩, ⟨M, 23, none⟩, ⟨L, 0, none⟩, ⟨U, 0, none⟩, ⟨U, 1, none⟩] w ((w.setCell ⟨M, 24, none⟩ (.int .i64 tot)).setCell ⟨M, 23, none⟩ (.slice none 0 0))) := (but_store _ _ (by simp) hB hMs).setCell _ _ (by simp) hB
  have k24 : ((w.setCell ⟨M, 24, none⟩ (.int .i64 tot)).setCell ⟨M, 23, none⟩ (.slice none 0 0)).cell? ⟨M, 24, none⟩ = some (.int .i64 tot) := (World.cell?_setCell_other _ ⟨M, 23, none⟩ ⟨M, 24, none⟩ _ (by simp)).trans (World.cell?_setCell_same _ _ _ c24)
  have k23 : ((w.setCell ⟨M, 24, none⟩ (.int .i64 tot)).setCell ⟨M, 23, none⟩ (.slice none 0 0)).cell? ⟨M, 23, none⟩ = some (.slice none 0 0) := World.cell?_setCell_same _ _ _ ((World.cell?_setCell_other w ⟨M, 24, none⟩ ⟨M, 23, none⟩ _ (by simp)).trans c23)
  have k20 := (World.cell?_setCell_other _ ⟨M, 23, none⟩ ⟨M, 21, none⟩ (.slice none 0 0) (by simp)).trans ((World.cell?_setCell_other w ⟨M, 24, none⟩ ⟨M, 21, none⟩ (.int .i64 tot) (by simp)).trans c20)
  have k22 := (World.cell?_setCell_other _ ⟨M, 23, none⟩ ⟨M, 22, none⟩ (.slice none 0 0) (by simp)).trans ((World.cell?_setCell_other w ⟨M, 24, none⟩ ⟨M, 22, none⟩ (.int .i64 tot) (by simp)).trans c22)
  have kL := (World.cell?_setCell_other _ ⟨M, 23, none⟩ ⟨L, 0, none⟩ (.slice none 0 0) (by simp)).trans ((World.cell?_setCell_other w ⟨M, 24, none⟩ ⟨L, 0, none⟩ (.int .i64 tot) (by simp)).trans hL)
  have gL : ((w.setCell ⟨M, 24, none⟩ (.int .i64 tot)).setCell ⟨M, 23, none⟩ (.slice none 0 0)).frozen? ⟨L, 0, none⟩ = false := by simpa using fL
  have kU0 := (World.cell?_setCell_other _ ⟨M, 23, none⟩ ⟨U, 0, none⟩ (.slice none 0 0) (by simp)).trans ((World.cell?_setCell_other w ⟨M, 24, none⟩ ⟨U, 0, none⟩ (.int .i64 tot) (by simp)).trans hU0)
  have kU1 := (World.cell?_setCell_other _ ⟨M, 23, none⟩ ⟨U, 1, none⟩ (.slice none 0 0) (by simp)).trans ((World.cell?_setCell_other w ⟨M, 24, none⟩ ⟨U, 1, none⟩ (.int .i64 tot) (by simp)).trans hU1)
  have gU0 : ((w.setCell ⟨M, 24, none⟩ (.int .i64 tot)).setCell ⟨M, 23, none⟩ (.slice none 0 0)).frozen? ⟨U, 0, none⟩ = false := by simpa using fU0
  have gU1 : ((w.setCell ⟨M, 24, none⟩ (.int .i64 tot)).setCell ⟨M, 23, none⟩ (.slice none 0 0)).frozen? ⟨U, 1, none⟩ = false := by simpa using fU1
  have hsz : ((w.setCell ⟨M, 24, none⟩ (.int .i64 tot)).setCell ⟨M, 23, none⟩ (.slice none 0 0)).heap.size = w.heap.size := by simp
  go_enter Ybaf.func13, Ybaf.ntmps13
  go_wp2_with fail
  clear c24 f24 c23 c20 c22 f23 hL fL hU0 hU1 fU0 fU1
  generalize (w.setCell ⟨M, 24, none⟩ (.int .i64 tot)).setCell ⟨M, 23, none⟩ (.slice none 0 0) = W at *
  have hMW : M < W.heap.size := by omega
  have nL1 : (⟨M, 21, none⟩ : Addr) ∉ [(⟨L, 0, none⟩ : Addr)] := by simp
  have nL2 : (⟨M, 24, none⟩ : Addr) ∉ [(⟨L, 0, none⟩ : Addr)] := by simp
  go_region_held (fun w' => w'.cell? ⟨M, 21, none⟩ = some (.func (Fn.func 12) #[] #[.pointer (some ⟨L, 0, none⟩)]) ∧ w'.cell? ⟨M, 24, none⟩ = some (.int .i64 tot)) (go_keep) ((go_at_call 12; refine (log12 tot L _ (by exact kL) (by exact gL)).mono ?_; rintro e w1 ⟨rfl, hone, hbut⟩; have q20 := (hbut.cell ⟨M, 21, none⟩ (by exact hMW) (by exact nL1)).trans k20; have q24 := (hbut.cell ⟨M, 24, none⟩ (by exact hMW) (by exact nL2)).trans k24))
  have p22 := (hbut.cell ⟨M, 22, none⟩ (by exact hMW) (by simp)).trans k22
  have p23 := (hbut.cell ⟨M, 23, none⟩ (by exact hMW) (by simp)).trans k23
  have pU0 := (hbut.cell ⟨U, 0, none⟩ (by show U < W.heap.size; omega) (by simp <;> exact hUL)).trans kU0
  have pU1 := (hbut.cell ⟨U, 1, none⟩ (by show U < W.heap.size; omega) (by simp)).trans kU1
  have fU0 := (hbut.frozen ⟨U, 0, none⟩ (by show U < W.heap.size; omega)).trans gU0
  have fU1 := (hbut.frozen ⟨U, 1, none⟩ (by show U < W.heap.size; omega)).trans gU1
  have hs1 : W.heap.size ≤ w1.heap.size := hbut.size
  have HO : Hid (One w1 ⟨L, 0, none⟩ (.int .i64 tot)) := hone
  have HB1 : Hid (But B [⟨M, 24, none⟩, ⟨M, 23, none⟩, ⟨L, 0, none⟩, ⟨U, 0, none⟩, ⟨U, 1, none⟩] w w1) := HB0.out.trans (qs := [⟨L, 0, none⟩]) (hbut.undrew.lower hBL) (fun _ h => h) (fun _ h => by simp at h; subst h; simp)
  clear hone hbut HB0 k24 k20 k22 kL gL q20 nf nL1 nL2 kU0 kU1 gU0 gU1 k23
  go_wp2_with fail
  have hMW1 : M < w1.heap.size := by omega
  have nU1 : (⟨M, 22, none⟩ : Addr) ∉ [(⟨U, 0, none⟩ : Addr), ⟨U, 1, none⟩] := by simp
  have nU2 : (⟨M, 24, none⟩ : Addr) ∉ [(⟨U, 0, none⟩ : Addr), ⟨U, 1, none⟩] := by simp
  go_region_held (fun w' => w'.cell? ⟨M, 22, none⟩ = some (.iface 63 (.pointer (some ⟨U, 0, none⟩))) ∧ w'.cell? ⟨M, 24, none⟩ = some (.int .i64 tot)) (go_keep) ((go_at_call 73; refine (sent73 tot false U env _ (by exact pU0) (by exact pU1) (by exact fU0) (by exact fU1)).mono ?_; rintro e w2 ⟨rfl, ho0, ho1, hbut⟩; have r22 := (hbut.cell ⟨M, 22, none⟩ (by exact hMW1) (by exact nU1)).trans p22; have r24 := (hbut.cell ⟨M, 24, none⟩ (by exact hMW1) (by exact nU2)).trans q24))
  have r23 := (hbut.cell ⟨M, 23, none⟩ (by exact hMW1) (by simp)).trans p23
  have HO2 : Hid (One w2 ⟨L, 0, none⟩ (.int .i64 tot)) := HO.out.but hbut.undrew (by simp <;> exact fun h => hUL h.symm) (fun g hg hm => by
    simp at hm
    subst hm
    rw [pU0] at hg; simp at hg)
  have HB2 : Hid (But B [⟨M, 24, none⟩, ⟨M, 23, none⟩, ⟨L, 0, none⟩, ⟨U, 0, none⟩, ⟨U, 1, none⟩] w w2) := HB1.out.trans (qs := [⟨U, 0, none⟩, ⟨U, 1, none⟩]) (hbut.undrew.lower hBU) (fun _ h => h) (fun _ h => by simp at h; rcases h with h | h <;> (subst h; simp))
  go_wp2
  go_end0
  exact ⟨rfl, r24, r23, HO2.out, ho0, ho1, HB2.out⟩

set_option maxHeartbeats 1000000 in
set_option maxRecDepth 100000 in
theorem ended_fcn (M B L : Nat) (env : Value) (r0 ret : Int) (q0 : Value) (w : World) (hB : B ≤ M) (c24 : w.cell? ⟨M, 24, none⟩ = some (.int .i64 r0)) (f24 : w.frozen? ⟨M, 24, none⟩ = false) (c23 : w.cell? ⟨M, 23, none⟩ = some q0) (f23 : w.frozen? ⟨M, 23, none⟩ = false) (c20 : w.cell? ⟨M, 21, none⟩ = some (.func (Fn.func 12) #[] #[.pointer (some ⟨L, 0, none⟩)])) (c22 : w.cell? ⟨M, 22, none⟩ = some (.nilIface)) (hL : w.cell? ⟨L, 0, none⟩ = some (.slice none 0 0)) (fL : w.frozen? ⟨L, 0, none⟩ = false) (hLM : L ≠ M) (hBL : B ≤ L) :
    Calls Ybaf.prog 13 #[.pointer (some ⟨M, 0, none⟩), env, .int .i64 ret, .bool false] w fun e w' => e = .returned (.tuple #[]) ∧ w'.cell? ⟨M, 24, none⟩ = some (.int .i64 (wrap64 (r0 + ret))) ∧ w'.cell? ⟨M, 23, none⟩ = some (.slice none 0 0) ∧ One w' ⟨L, 0, none⟩ (.int .i64 (wrap64 (r0 + ret))) ∧ But B [⟨M, 24, none⟩, ⟨M, 23, none⟩, ⟨L, 0, none⟩] w w' := by
  generalize ht : wrap64 (r0 + ret) = tot
  have nf := neq_f12 L
  have nup := neq_upnil
  have hMs : M < w.heap.size := World.block_lt_of_cell? _ _ c24
  have hLs : L < w.heap.size := World.block_lt_of_cell? _ _ hL
  have HB0 : Hid (But B [⟨M, 24, none⟩, ⟨M, 23, none⟩, ⟨L, 0, none⟩] w ((w.setCell ⟨M, 24, none⟩ (.int .i64 tot)).setCell ⟨M, 23, none⟩ (.slice none 0 0))) := (but_store _ _ (by simp) hB hMs).setCell _ _ (by simp) hB
  have k24 : ((w.setCell ⟨M, 24, none⟩ (.int .i64 tot)).setCell ⟨M, 23, none⟩ (.slice none 0 0)).cell? ⟨M, 24, none⟩ = some (.int .i64 tot) := (World.cell?_setCell_other _ ⟨M, 23, none⟩ ⟨M, 24, none⟩ _ (by simp)).trans (World.cell?_setCell_same _ _ _ c24)
  have k23 : ((w.setCell ⟨M, 24, none⟩ (.int .i64 tot)).setCell ⟨M, 23, none⟩ (.slice none 0 0)).cell? ⟨M, 23, none⟩ = some (.slice none 0 0) := World.cell?_setCell_same _ _ _ ((World.cell?_setCell_other w ⟨M, 24, none⟩ ⟨M, 23, none⟩ _ (by simp)).trans c23)
  have k20 := (World.cell?_setCell_other _ ⟨M, 23, none⟩ ⟨M, 21, none⟩ (.slice none 0 0) (by simp)).trans ((World.cell?_setCell_other w ⟨M, 24, none⟩ ⟨M, 21, none⟩ (.int .i64 tot) (by simp)).trans c20)
  have k22 := (World.cell?_setCell_other _ ⟨M, 23, none⟩ ⟨M, 22, none⟩ (.slice none 0 0) (by simp)).trans ((World.cell?_setCell_other w ⟨M, 24, none⟩ ⟨M, 22, none⟩ (.int .i64 tot) (by simp)).trans c22)
  have kL := (World.cell?_setCell_other _ ⟨M, 23, none⟩ ⟨L, 0, none⟩ (.slice none 0 0) (by simp)).trans ((World.cell?_setCell_other w ⟨M, 24, none⟩ ⟨L, 0, none⟩ (.int .i64 tot) (by simp)).trans hL)
  have gL : ((w.setCell ⟨M, 24, none⟩ (.int .i64 tot)).setCell ⟨M, 23, none⟩ (.slice none 0 0)).frozen? ⟨L, 0, none⟩ = false := by simpa using fL
  have hsz : ((w.setCell ⟨M, 24, none⟩ (.int .i64 tot)).setCell ⟨M, 23, none⟩ (.slice none 0 0)).heap.size = w.heap.size := by simp
  go_enter Ybaf.func13, Ybaf.ntmps13
  go_wp2_with fail
  clear c24 f24 c23 c20 c22 f23 hL fL
  generalize (w.setCell ⟨M, 24, none⟩ (.int .i64 tot)).setCell ⟨M, 23, none⟩ (.slice none 0 0) = W at *
  have hMW : M < W.heap.size := by omega
  have nL1 : (⟨M, 21, none⟩ : Addr) ∉ [(⟨L, 0, none⟩ : Addr)] := by simp
  have nL2 : (⟨M, 24, none⟩ : Addr) ∉ [(⟨L, 0, none⟩ : Addr)] := by simp
  go_region_held (fun w' => w'.cell? ⟨M, 21, none⟩ = some (.func (Fn.func 12) #[] #[.pointer (some ⟨L, 0, none⟩)]) ∧ w'.cell? ⟨M, 24, none⟩ = some (.int .i64 tot)) (go_keep) ((go_at_call 12; refine (log12 tot L _ (by exact kL) (by exact gL)).mono ?_; rintro e w1 ⟨rfl, hone, hbut⟩; have q20 := (hbut.cell ⟨M, 21, none⟩ (by exact hMW) (by exact nL1)).trans k20; have q24 := (hbut.cell ⟨M, 24, none⟩ (by exact hMW) (by exact nL2)).trans k24))
  have p22 := (hbut.cell ⟨M, 22, none⟩ (by exact hMW) (by simp)).trans k22
  have p23 := (hbut.cell ⟨M, 23, none⟩ (by exact hMW) (by simp)).trans k23
  have hs1 : W.heap.size ≤ w1.heap.size := hbut.size
  have HO : Hid (One w1 ⟨L, 0, none⟩ (.int .i64 tot)) := hone
  have HB1 : Hid (But B [⟨M, 24, none⟩, ⟨M, 23, none⟩, ⟨L, 0, none⟩] w w1) := HB0.out.trans (qs := [⟨L, 0, none⟩]) (hbut.undrew.lower hBL) (fun _ h => h) (fun _ h => by simp at h; subst h; simp)
  clear hone hbut HB0 k24 k20 k22 kL gL q20 nf nL1 nL2 k23
  go_wp2_with fail
  go_end0
  exact ⟨rfl, q24, p23, HO.out, HB1.out⟩

set_option maxHeartbeats 1000000 in
set_option maxRecDepth 100000 in
theorem ended_fnu (M B U : Nat) (env : Value) (r0 ret : Int) (q0 : Value) (w : World) (hB : B ≤ M) (c24 : w.cell? ⟨M, 24, none⟩ = some (.int .i64 r0)) (f24 : w.frozen? ⟨M, 24, none⟩ = false) (c23 : w.cell? ⟨M, 23, none⟩ = some q0) (f23 : w.frozen? ⟨M, 23, none⟩ = false) (c20 : w.cell? ⟨M, 21, none⟩ = some (.nilFunc)) (c22 : w.cell? ⟨M, 22, none⟩ = some (.iface 63 (.pointer (some ⟨U, 0, none⟩)))) (hU0 : w.cell? ⟨U, 0, none⟩ = some (.slice none 0 0)) (hU1 : w.cell? ⟨U, 1, none⟩ = some (.slice none 0 0)) (fU0 : w.frozen? ⟨U, 0, none⟩ = false) (fU1 : w.frozen? ⟨U, 1, none⟩ = false) (hUM : U ≠ M) (hBU : B ≤ U) :
    Calls Ybaf.prog 13 #[.pointer (some ⟨M, 0, none⟩), env, .int .i64 ret, .bool false] w fun e w' => e = .returned (.tuple #[]) ∧ w'.cell? ⟨M, 24, none⟩ = some (.int .i64 (wrap64 (r0 + ret))) ∧ w'.cell? ⟨M, 23, none⟩ = some (.slice none 0 0) ∧ One w' ⟨U, 0, none⟩ (.int .i64 (wrap64 (r0 + ret))) ∧ One w' ⟨U, 1, none⟩ (.bool false) ∧ But B [⟨M, 24, none⟩, ⟨M, 23, none⟩, ⟨U, 0, none⟩, ⟨U, 1, none⟩] w w' := by
  generalize ht : wrap64 (r0 + ret) = tot
  have nf := neq_fnil
  have nup := neq_up U
  have hmeth := meth_sent U
  obtain ⟨nm, hnm⟩ : ∃ s, s = nmSent := ⟨_, rfl⟩
  rw [← hnm] at hmeth
  unfold nmSent at hnm
  simp at hnm
  subst hnm
  have hMs : M < w.heap.size := World.block_lt_of_cell? _ _ c24
  have hUs : U < w.heap.size := World.block_lt_of_cell? _ _ hU0
  have HB0 : Hid (But B [⟨M, 24, none⟩, ⟨M, 23, none⟩, ⟨U, 0, none⟩, ⟨U, 1, none⟩] w ((w.setCell ⟨M, 24, none⟩ (.int .i64 tot)).setCell ⟨M, 23, none⟩ (.slice none 0 0))) := (but_store _ _ (by simp) hB hMs).setCell _ _ (by simp) hB
  have k24 : ((w.setCell ⟨M, 24, none⟩ (.int .i64 tot)).setCell ⟨M, 23, none⟩ (.slice none 0 0)).cell? ⟨M, 24, none⟩ = some (.int .i64 tot) := (World.cell?_setCell_other _ ⟨M, 23, none⟩ ⟨M, 24, none⟩ _ (by simp)).trans (World.cell?_setCell_same _ _ _ c24)
  have k23 : ((w.setCell ⟨M, 24, none⟩ (.int .i64 tot)).setCell ⟨M, 23, none⟩ (.slice none 0 0)).cell? ⟨M, 23, none⟩ = some (.slice none 0 0) := World.cell?_setCell_same _ _ _ ((World.cell?_setCell_other w ⟨M, 24, none⟩ ⟨M, 23, none⟩ _ (by simp)).trans c23)
  have k20 := (World.cell?_setCell_other _ ⟨M, 23, none⟩ ⟨M, 21, none⟩ (.slice none 0 0) (by simp)).trans ((World.cell?_setCell_other w ⟨M, 24, none⟩ ⟨M, 21, none⟩ (.int .i64 tot) (by simp)).trans c20)
  have k22 := (World.cell?_setCell_other _ ⟨M, 23, none⟩ ⟨M, 22, none⟩ (.slice none 0 0) (by simp)).trans ((World.cell?_setCell_other w ⟨M, 24, none⟩ ⟨M, 22, none⟩ (.int .i64 tot) (by simp)).trans c22)
  have kU0 := (World.cell?_setCell_other _ ⟨M, 23, none⟩ ⟨U, 0, none⟩ (.slice none 0 0) (by simp)).trans ((World.cell?_setCell_other w ⟨M, 24, none⟩ ⟨U, 0, none⟩ (.int .i64 tot) (by simp)).trans hU0)
  have kU1 := (World.cell?_setCell_other _ ⟨M, 23, none⟩ ⟨U, 1, none⟩ (.slice none 0 0) (by simp)).trans ((World.cell?_setCell_other w ⟨M, 24, none⟩ ⟨U, 1, none⟩ (.int .i64 tot) (by simp)).trans hU1)
  have gU0 : ((w.setCell ⟨M, 24, none⟩ (.int .i64 tot)).setCell ⟨M, 23, none⟩ (.slice none 0 0)).frozen? ⟨U, 0, none⟩ = false := by simpa using fU0
  have gU1 : ((w.setCell ⟨M, 24, none⟩ (.int .i64 tot)).setCell ⟨M, 23, none⟩ (.slice none 0 0)).frozen? ⟨U, 1, none⟩ = false := by simpa using fU1
  have hsz : ((w.setCell ⟨M, 24, none⟩ (.int .i64 tot)).setCell ⟨M, 23, none⟩ (.slice none 0 0)).heap.size = w.heap.size := by simp
  go_enter Ybaf.func13, Ybaf.ntmps13
  go_wp2_with fail
  clear c24 f24 c23 c20 c22 f23 hU0 hU1 fU0 fU1
  generalize (w.setCell ⟨M, 24, none⟩ (.int .i64 tot)).setCell ⟨M, 23, none⟩ (.slice none 0 0) = W at *
  have hMW : M < W.heap.size := by omega
  have nU1 : (⟨M, 22, none⟩ : Addr) ∉ [(⟨U, 0, none⟩ : Addr), ⟨U, 1, none⟩] := by simp
  have nU2 : (⟨M, 24, none⟩ : Addr) ∉ [(⟨U, 0, none⟩ : Addr), ⟨U, 1, none⟩] := by simp
  go_region_held (fun w' => w'.cell? ⟨M, 22, none⟩ = some (.iface 63 (.pointer (some ⟨U, 0, none⟩))) ∧ w'.cell? ⟨M, 24, none⟩ = some (.int .i64 tot)) (go_keep) ((go_at_call 73; refine (sent73 tot false U env _ (by exact kU0) (by exact kU1) (by exact gU0) (by exact gU1)).mono ?_; rintro e w2 ⟨rfl, ho0, ho1, hbut⟩; have r22 := (hbut.cell ⟨M, 22, none⟩ (by exact hMW) (by exact nU1)).trans k22; have r24 := (hbut.cell ⟨M, 24, none⟩ (by exact hMW) (by exact nU2)).trans k24))
  have r23 := (hbut.cell ⟨M, 23, none⟩ (by exact hMW) (by simp)).trans k23
  have HB2 : Hid (But B [⟨M, 24, none⟩, ⟨M, 23, none⟩, ⟨U, 0, none⟩, ⟨U, 1, none⟩] w w2) := HB0.out.trans (qs := [⟨U, 0, none⟩, ⟨U, 1, none⟩]) (hbut.undrew.lower hBU) (fun _ h => h) (fun _ h => by simp at h; rcases h with h | h <;> (subst h; simp))
  go_wp2
  go_end0
  exact ⟨rfl, r24, r23, ho0, ho1, HB2.out⟩

set_option maxHeartbeats 1000000 in
set_option maxRecDepth 100000 in
theorem ended_fnn (M B : Nat) (env : Value) (r0 ret : Int) (q0 : Value) (w : World) (hB : B ≤ M) (c24 : w.cell? ⟨M, 24, none⟩ = some (.int .i64 r0)) (f24 : w.frozen? ⟨M, 24, none⟩ = false) (c23 : w.cell? ⟨M, 23, none⟩ = some q0) (f23 : w.frozen? ⟨M, 23, none⟩ = false) (c20 : w.cell? ⟨M, 21, none⟩ = some (.nilFunc)) (c22 : w.cell? ⟨M, 22, none⟩ = some (.nilIface)) :
    Calls Ybaf.prog 13 #[.pointer (some ⟨M, 0, none⟩), env, .int .i64 ret, .bool false] w fun e w' => e = .returned (.tuple #[]) ∧ w'.cell? ⟨M, 24, none⟩ = some (.int .i64 (wrap64 (r0 + ret))) ∧ w'.cell? ⟨M, 23, none⟩ = some (.slice none 0 0) ∧ But B [⟨M, 24, none⟩, ⟨M, 23, none⟩] w w' := by
  generalize ht : wrap64 (r0 + ret) = tot
  have nf := neq_fnil
  have nup := neq_upnil
  have hMs : M < w.heap.size := World.block_lt_of_cell? _ _ c24
  have HB0 : Hid (But B [⟨M, 24, none⟩, ⟨M, 23, none⟩] w ((w.setCell ⟨M, 24, none⟩ (.int .i64 tot)).setCell ⟨M, 23, none⟩ (.slice none 0 0))) := (but_store _ _ (by simp) hB hMs).setCell _ _ (by simp) hB
  have k24 : ((w.setCell ⟨M, 24, none⟩ (.int .i64 tot)).setCell ⟨M, 23, none⟩ (.slice none 0 0)).cell? ⟨M, 24, none⟩ = some (.int .i64 tot) := (World.cell?_setCell_other _ ⟨M, 23, none⟩ ⟨M, 24, none⟩ _ (by simp)).trans (World.cell?_setCell_same _ _ _ c24)
  have k23 : ((w.setCell ⟨M, 24, none⟩ (.int .i64 tot)).setCell ⟨M, 23, none⟩ (.slice none 0 0)).cell? ⟨M, 23, none⟩ = some (.slice none 0 0) := World.cell?_setCell_same _ _ _ ((World.cell?_setCell_other w ⟨M, 24, none⟩ ⟨M, 23, none⟩ _ (by simp)).trans c23)
  have k20 := (World.cell?_setCell_other _ ⟨M, 23, none⟩ ⟨M, 21, none⟩ (.slice none 0 0) (by simp)).trans ((World.cell?_setCell_other w ⟨M, 24, none⟩ ⟨M, 21, none⟩ (.int .i64 tot) (by simp)).trans c20)
  have k22 := (World.cell?_setCell_other _ ⟨M, 23, none⟩ ⟨M, 22, none⟩ (.slice none 0 0) (by simp)).trans ((World.cell?_setCell_other w ⟨M, 24, none⟩ ⟨M, 22, none⟩ (.int .i64 tot) (by simp)).trans c22)
  have hsz : ((w.setCell ⟨M, 24, none⟩ (.int .i64 tot)).setCell ⟨M, 23, none⟩ (.slice none 0 0)).heap.size = w.heap.size := by simp
  go_enter Ybaf.func13, Ybaf.ntmps13
  go_wp2_with fail
  clear c24 f24 c23 c20 c22 f23
  generalize (w.setCell ⟨M, 24, none⟩ (.int .i64 tot)).setCell ⟨M, 23, none⟩ (.slice none 0 0) = W at *
  have hMW : M < W.heap.size := by omega
  go_end0
  exact ⟨rfl, k24, k23, HB0.out⟩
end Go.Proofs.YbulkaqtiFmt
