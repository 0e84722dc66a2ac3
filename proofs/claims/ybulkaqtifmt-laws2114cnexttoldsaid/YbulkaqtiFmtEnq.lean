/-
  Link.enquire, Link.resume, Link.Send by contracts.
-/
import Derived.Test.YbulkaqtiFmtLine
namespace Go.Proofs.YbulkaqtiFmt
open Go.RowKit
set_option linter.unusedVariables false

theorem meth_send (E : Nat) (w : World) : (method 251 67 (.pointer (some ⟨E, 0, none⟩)) "Send").run Ybaf.prog w = .ok (74, .pointer (some ⟨E, 0, none⟩)) w := by kernel_rfl
theorem meth_start (E : Nat) (w : World) : (method 251 67 (.pointer (some ⟨E, 0, none⟩)) "Start").run Ybaf.prog w = .ok (75, .pointer (some ⟨E, 0, none⟩)) w := by kernel_rfl

theorem nil_start (E : Nat) (w : World) : (nilAhead 251 67 (.pointer (some ⟨E, 0, none⟩)) "Start").run Ybaf.prog w = .ok (some false) w := by kernel_rfl

set_option maxHeartbeats 1000000 in
set_option maxRecDepth 100000 in
theorem t2_any (M : Nat) (w : World) (h2 : w.cell? ⟨M, 2, none⟩ = some (.int .i64 0)) :
    Calls Ybaf.prog 17 #[.pointer (some ⟨M, 0, none⟩)] w fun e w' => e = .returned (.int .i64 10000000000) ∧ w' = w := by
  go_enter Ybaf.func17, Ybaf.ntmps17
  go_wp2_with fail
  go_enter Ybaf.func25, Ybaf.ntmps25
  go_wp2
  go_ret
  exact ⟨rfl, rfl⟩

set_option maxHeartbeats 1000000 in
set_option maxRecDepth 100000 in
theorem enquire_any (M E B : Nat) (w : World) (hBM : B ≤ M) (hBE : B ≤ E) (hME : M ≠ E) (h2 : w.cell? ⟨M, 2, none⟩ = some (.int .i64 0)) (h9 : w.cell? ⟨M, 9, none⟩ = some (.int .i64 0)) (f9 : w.frozen? ⟨M, 9, none⟩ = false)
    (e0 : w.cell? ⟨E, 0, none⟩ = some (.slice none 0 0)) (e1 : w.cell? ⟨E, 1, none⟩ = some (.slice none 0 0)) (g0 : w.frozen? ⟨E, 0, none⟩ = false) (g1 : w.frozen? ⟨E, 1, none⟩ = false) :
    Calls Ybaf.prog 33 #[.pointer (some ⟨M, 0, none⟩), .iface 67 (.pointer (some ⟨E, 0, none⟩))] w fun e w' => e = .returned (.tuple #[]) ∧ w'.cell? ⟨M, 9, none⟩ = some (.int .i64 4) ∧ Sent w' E w.heap.size 5 ∧ Started w' E w.heap.size 1 ∧ But B [⟨M, 9, none⟩, ⟨E, 0, none⟩, ⟨E, 1, none⟩] w w' := by
  have ms := meth_send E
  have mt := meth_start E
  have hM : M < w.heap.size := World.block_lt_of_cell? _ _ h9
  have hE : E < w.heap.size := World.block_lt_of_cell? _ _ e0
  have hb0 : Below w.heap.size w (w.alloc (.cells #[.int .u8 5] 5)) := (Below.refl _ _).alloc (Nat.le_refl _) _
  go_enter Ybaf.func33, Ybaf.ntmps33
  go_wp2_with fail
  refine (send74 E w.heap.size 5 (w.alloc (.cells #[.int .u8 5] 5)) ((hb0.cell (p := ⟨E, 0, none⟩) hE).trans e0) ((hb0.frozen (p := ⟨E, 0, none⟩) hE).trans g0) (World.cell?_alloc_at _ _ _ _ rfl)).mono ?_
  rintro e w1 ⟨rfl, hsent, hbut⟩
  have hb : But E [⟨E, 0, none⟩] w w1 := (But.of_below (ps := []) hb0 (by omega)).trans hbut (fun _ h => by cases h) (fun _ h => h)
  have k2 := (hb.cell ⟨M, 2, none⟩ hM (by simp)).trans h2
  have k9 := (hb.cell ⟨M, 9, none⟩ hM (by simp)).trans h9
  have ke1 := (hb.cell ⟨E, 1, none⟩ hE (by simp)).trans e1
  have kf9 := (hb.frozen ⟨M, 9, none⟩ hM).trans f9
  have kg1 := (hb.frozen ⟨E, 1, none⟩ hE).trans g1
  have hs1 : w.heap.size ≤ w1.heap.size := hb.size
  have hM1 : M < w1.heap.size := by omega
  have HS1 : Hid (Sent w1 E w.heap.size 5) := hsent.lower (by simp)
  have HB1 : Hid (But B [⟨M, 9, none⟩, ⟨E, 0, none⟩, ⟨E, 1, none⟩] w w1) := (hb.lower hBE).trans (qs := []) (But.of_below (Below.refl _ _) (by omega)) (fun _ h => by simp at h; subst h; simp) (fun _ h => by cases h)
  have nt := nil_start E
  clear hb hbut hsent hb0 h2 h9 f9 e0 e1 g0 g1 ms
  go_wp2_with fail
  go_region_held3 (fun w' => True) (trivial)
    ((first
      | (go_at_call 17; refine (t2_any M _ (by exact k2)).mono ?_; rintro e w2 ⟨rfl, rfl⟩)
      | (go_at_call 75; refine (start75 E 1 10000000000 _ (by exact ke1) (by exact kg1)).mono ?_; rintro e w3 ⟨rfl, hst, hbut⟩; have q9 := (hbut.cell ⟨M, 9, none⟩ (by exact hM1) (by simp)).trans k9; have qf9 := (hbut.frozen ⟨M, 9, none⟩ (by exact hM1)).trans kf9)))
  all_goals
    have HS3 : Hid (Sent w3 E w.heap.size 5) := HS1.out.but hbut.undrew (by simp) (fun a h => by simp at h; subst h; exact hE)
    have HT3 : Hid (Started w3 E w.heap.size 1) := hst.lower (by simpa using hs1)
    have HB3 : Hid (But B [⟨M, 9, none⟩, ⟨E, 0, none⟩, ⟨E, 1, none⟩] w w3) := HB1.out.trans (qs := [⟨E, 1, none⟩]) (hbut.undrew.lower hBE) (fun _ h => h) (fun _ h => by simp at h; subst h; simp)
    clear hbut hst
    go_wp2
    go_end0
    have hbs : But M [⟨M, 9, none⟩] w3 (w3.setCell ⟨M, 9, none⟩ (.int .i64 4)) := but_store _ _ (by simp) (Nat.le_refl _) (World.block_lt_of_cell? _ _ q9)
    exact ⟨rfl, World.cell?_setCell_same _ _ _ q9, HS3.out.but hbs (by simp <;> exact fun h => hME h.symm) (fun a h => by simp at h; subst h; exact hM), HT3.out.but hbs (by simp) (fun a h => by simp at h; subst h; exact hM), HB3.out.setCell _ _ (by simp) hBM⟩

set_option maxHeartbeats 1000000 in
set_option maxRecDepth 100000 in
theorem resume_any (M E B G n c : Nat) (w : World) (hBM : B ≤ M) (hBE : B ≤ E) (hME : M ≠ E) (h2 : w.cell? ⟨M, 2, none⟩ = some (.int .i64 0)) (h9 : w.cell? ⟨M, 9, none⟩ = some (.int .i64 0)) (f9 : w.frozen? ⟨M, 9, none⟩ = false) (h12 : w.cell? ⟨M, 12, none⟩ = some (.slice (some ⟨G, 0, none⟩) n c))
    (e0 : w.cell? ⟨E, 0, none⟩ = some (.slice none 0 0)) (e1 : w.cell? ⟨E, 1, none⟩ = some (.slice none 0 0)) (g0 : w.frozen? ⟨E, 0, none⟩ = false) (g1 : w.frozen? ⟨E, 1, none⟩ = false) :
    Calls Ybaf.prog 22 #[.pointer (some ⟨M, 0, none⟩), .iface 67 (.pointer (some ⟨E, 0, none⟩))] w fun e w' => e = .returned (.tuple #[]) ∧ w'.cell? ⟨M, 9, none⟩ = some (.int .i64 4) ∧ Sent w' E w.heap.size 5 ∧ Started w' E w.heap.size 1 ∧ But B [⟨M, 9, none⟩, ⟨E, 0, none⟩, ⟨E, 1, none⟩] w w' := by
  have nn := neq31 G n c
  have HC := enquire_any M E B w hBM hBE hME h2 h9 f9 e0 e1 g0 g1
  go_enter Ybaf.func22, Ybaf.ntmps22
  go_wp2_with fail
  refine HC.mono ?_
  rintro e w1 ⟨rfl, k9, hs, ht, hb⟩
  go_wp2
  go_end0
  exact ⟨rfl, k9, hs, ht, hb⟩

set_option maxHeartbeats 2000000 in
set_option maxRecDepth 100000 in
theorem linkSend_any (M E B : Nat) (r13 : Value) (b14 : Value) (h wb l : Bool) (D S Fn Nm Sy : Int) (g n : Nat) (bs : Nat → Int) (w : World) (hBM : B ≤ M) (hBE : B ≤ E) (hME : M ≠ E) (h2 : w.cell? ⟨M, 2, none⟩ = some (.int .i64 0)) (h9 : w.cell? ⟨M, 9, none⟩ = some (.int .i64 0)) (f9 : w.frozen? ⟨M, 9, none⟩ = false)
    (h12 : w.cell? ⟨M, 12, none⟩ = some (.slice none 0 0)) (f12 : w.frozen? ⟨M, 12, none⟩ = false) (h13 : w.cell? ⟨M, 13, none⟩ = some r13) (f13 : w.frozen? ⟨M, 13, none⟩ = false) (h14 : w.cell? ⟨M, 14, none⟩ = some b14) (f14 : w.frozen? ⟨M, 14, none⟩ = false)
    (e0 : w.cell? ⟨E, 0, none⟩ = some (.slice none 0 0)) (e1 : w.cell? ⟨E, 1, none⟩ = some (.slice none 0 0)) (g0 : w.frozen? ⟨E, 0, none⟩ = false) (g1 : w.frozen? ⟨E, 1, none⟩ = false)
    (hn : n ≤ 244) (hg : w.heap[g]? = some (.cells (byts bs n).toArray 5 (0, 0)))
    (hD : 0 ≤ D ∧ D ≤ 32767) (hS : 0 ≤ S ∧ S ≤ 127) (hFn : 0 ≤ Fn ∧ Fn ≤ 255) (hNm : 0 ≤ Nm ∧ Nm ≤ 32767) (hSy : 0 ≤ Sy ∧ Sy ≤ 4294967295) :
    Calls Ybaf.prog 24 #[.pointer (some ⟨M, 0, none⟩), .iface 67 (.pointer (some ⟨E, 0, none⟩)), .agg #[.bool h, .int .u16 D, .bool wb, .int .u8 S, .int .u8 Fn, .bool l, .int .u16 Nm, .int .u32 Sy, .slice (some ⟨g, 0, none⟩) n n]] w fun e w' =>
      e = .returned .nilIface ∧ w'.cell? ⟨M, 9, none⟩ = some (.int .i64 4) ∧ Sent w' E w.heap.size 5 ∧ Started w' E w.heap.size 1 ∧ (∃ G c, w.heap.size ≤ G ∧ w'.cell? ⟨M, 12, none⟩ = some (.slice (some ⟨G, 0, none⟩) (n + 13) c) ∧ w'.cell? ⟨G, 0, none⟩ = some (.int .u8 (n + 10))) ∧
      But B [⟨M, 9, none⟩, ⟨M, 12, none⟩, ⟨M, 13, none⟩, ⟨M, 14, none⟩, ⟨E, 0, none⟩, ⟨E, 1, none⟩] w w' := by
  have nn := neq_nil31
  have hM : M < w.heap.size := World.block_lt_of_cell? _ _ h9
  have hE : E < w.heap.size := World.block_lt_of_cell? _ _ e0
  have hgl := lt_of_heap hg
  have hb0 : Below w.heap.size w (w.alloc (.cells #[.bool h, .int .u16 D, .bool wb, .int .u8 S, .int .u8 Fn, .bool l, .int .u16 Nm, .int .u32 Sy, .slice (some ⟨g, 0, none⟩) n n] 51)) := (Below.refl _ _).alloc (Nat.le_refl _) _
  have hg' := (hb0.block g hgl).trans hg
  go_enter Ybaf.func24, Ybaf.ntmps24
  go_wp2_with fail
  refine (marshal_any h wb l D S Fn Nm Sy g n bs _ hn hg' hD hS hFn hNm hSy).mono ?_
  rintro e w1 ⟨G, c, rfl, hG, hGc, hb1⟩
  have hb : Below w.heap.size w w1 := hb0.trans (hb1.mono (by simp))
  have hs1 : w.heap.size ≤ w1.heap.size := hb.size
  have k2 := (hb.cell (p := ⟨M, 2, none⟩) hM).trans h2
  have k9 := (hb.cell (p := ⟨M, 9, none⟩) hM).trans h9
  have k12 := (hb.cell (p := ⟨M, 12, none⟩) hM).trans h12
  have k13 := (hb.cell (p := ⟨M, 13, none⟩) hM).trans h13
  have k14 := (hb.cell (p := ⟨M, 14, none⟩) hM).trans h14
  have ke0 := (hb.cell (p := ⟨E, 0, none⟩) hE).trans e0
  have ke1 := (hb.cell (p := ⟨E, 1, none⟩) hE).trans e1
  have kf9 := (hb.frozen (p := ⟨M, 9, none⟩) hM).trans f9
  have kf12 := (hb.frozen (p := ⟨M, 12, none⟩) hM).trans f12
  have kf13 := (hb.frozen (p := ⟨M, 13, none⟩) hM).trans f13
  have kf14 := (hb.frozen (p := ⟨M, 14, none⟩) hM).trans f14
  have kg0 := (hb.frozen (p := ⟨E, 0, none⟩) hE).trans g0
  have kg1 := (hb.frozen (p := ⟨E, 1, none⟩) hE).trans g1
  have hsG : w.heap.size ≤ G := Nat.le_trans (by simp) hG
  have hM1 : M < w1.heap.size := by omega
  have hE1 : E < w1.heap.size := by omega
  have hG1 : G < w1.heap.size := World.block_lt_of_cell? _ _ hGc
  have hGM : G ≠ M := by omega
  clear h2 h9 f9 h12 f12 h13 f13 h14 f14 e0 e1 g0 g1 hg hg' hb0 hb1
  have HBw : Hid (Below w.heap.size w w1) := hb
  have HGc : Hid (w1.cell? ⟨G, 0, none⟩ = some (.int .u8 (n + 10))) := hGc
  clear hb hGc
  obtain ⟨W, hW⟩ : ∃ W, W = ((w1.setCell ⟨M, 12, none⟩ (.slice (some ⟨G, 0, none⟩) (n + 13) c)).setCell ⟨M, 13, none⟩ (.int .i64 0)).setCell ⟨M, 14, none⟩ (.bool false) := ⟨_, rfl⟩
  have hbW : But M [⟨M, 12, none⟩, ⟨M, 13, none⟩, ⟨M, 14, none⟩] w1 W := by
    rw [hW]; exact ((but_store (ps := [⟨M, 12, none⟩, ⟨M, 13, none⟩, ⟨M, 14, none⟩]) ⟨M, 12, none⟩ _ (by simp) (Nat.le_refl _) hM1).setCell ⟨M, 13, none⟩ _ (by simp) (Nat.le_refl _)).setCell ⟨M, 14, none⟩ _ (by simp) (Nat.le_refl _)
  have j12 : W.cell? ⟨M, 12, none⟩ = some (.slice (some ⟨G, 0, none⟩) (n + 13) c) := by
    rw [hW]; exact (World.cell?_setCell_other _ ⟨M, 14, none⟩ ⟨M, 12, none⟩ _ (by simp)).trans ((World.cell?_setCell_other _ ⟨M, 13, none⟩ ⟨M, 12, none⟩ _ (by simp)).trans (World.cell?_setCell_same _ _ _ k12))
  go_wp2_with fail
  rw [← hW]
  have j2 := (hbW.cell ⟨M, 2, none⟩ hM1 (by simp)).trans k2
  have j9 := (hbW.cell ⟨M, 9, none⟩ hM1 (by simp)).trans k9
  have je0 := (hbW.cell ⟨E, 0, none⟩ hE1 (by simp)).trans ke0
  have je1 := (hbW.cell ⟨E, 1, none⟩ hE1 (by simp)).trans ke1
  have jf9 := (hbW.frozen ⟨M, 9, none⟩ hM1).trans kf9
  have jg0 := (hbW.frozen ⟨E, 0, none⟩ hE1).trans kg0
  have jg1 := (hbW.frozen ⟨E, 1, none⟩ hE1).trans kg1
  have hsW : W.heap.size = w1.heap.size := by rw [hW]; simp
  refine (resume_any M E B G (n + 13) c W hBM hBE hME j2 j9 jf9 j12 je0 je1 jg0 jg1).mono ?_
  rintro e w4 ⟨rfl, q9, hs4, ht4, hb4⟩
  have q12 := (hb4.cell ⟨M, 12, none⟩ (by show M < W.heap.size; omega) (by simp)).trans j12
  have hGE : G ≠ E := by omega
  have qG := ((hb4.cell ⟨G, 0, none⟩ (by show G < W.heap.size; omega) (by simp)).trans (hbW.cell ⟨G, 0, none⟩ hG1 (by simp))).trans HGc.out
  have HF : Hid (But B [⟨M, 9, none⟩, ⟨M, 12, none⟩, ⟨M, 13, none⟩, ⟨M, 14, none⟩, ⟨E, 0, none⟩, ⟨E, 1, none⟩] w w4) :=
    ((But.of_below (ps := []) HBw.out (by omega)).trans (rs := [⟨M, 9, none⟩, ⟨M, 12, none⟩, ⟨M, 13, none⟩, ⟨M, 14, none⟩, ⟨E, 0, none⟩, ⟨E, 1, none⟩]) (hbW.lower hBM) (fun _ h => by cases h) (fun _ h => by simp at h; rcases h with h | h | h <;> (subst h; simp))).trans hb4 (fun _ h => h) (fun _ h => by simp at h; rcases h with h | h | h <;> (subst h; simp))
  have HS4 : Hid (Sent w4 E w.heap.size 5) := hs4.lower (by omega)
  have HT4 : Hid (Started w4 E w.heap.size 1) := ht4.lower (by omega)
  clear hb4 hs4 ht4 hbW hW
  go_wp2
  go_ret
  exact ⟨rfl, q9, HS4.out, HT4.out, ⟨G, c, hsG, q12, qG⟩, HF.out⟩
end Go.Proofs.YbulkaqtiFmt
