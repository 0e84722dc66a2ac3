/-
  MarshalBinary.
-/
import Derived.Test.YbulkaqtiFmtMarsh2
import Derived.Deep.AppendLies
import Derived.Deep.RegionWith
namespace Go.Proofs.YbulkaqtiFmt
open Go.RowKit
set_option linter.unusedVariables false

theorem make1 (n : Nat) (K : Int) (hn : n ≤ 244) (hK : K = n + 13) (w : World) :
    (Instr.makeSlice 31 (.int .i64 1) (.int .i64 K)).run Ybaf.prog w = .ok (.slice (some ⟨w.heap.size, 0, none⟩) 1 (n + 13)) (w.alloc (.cells (fill (.int .u8 0) (n + 13)).toArray 5)) := by
  obtain ⟨i, h0, h1, h2, h3⟩ := info_parts info5
  subst hK
  have := run_make (P := Ybaf.prog) w 31 5 i (.int .u8 0) Ybaf.underlying31 h0 h1 .i64 .i64 1 (n + 13) (by omega) (by omega) (by rw [h3]; omega) (by omega)
  rw [h2, show ((n : Int) + 13).toNat = n + 13 by omega, Nat.mul_one] at this
  have e : madeCells (Value.int .u8 0).cells (n + 13) = (fill (.int .u8 0) (n + 13)).toArray := by
    apply Array.toList_inj.1
    exact toList_madeCells_one _ _
  rw [e] at this
  exact this
theorem own_made (B n : Nat) (x : Value) (w : World) (hB : B ≤ w.heap.size) (hn : n ≤ 244) : (w.alloc (.cells ((fill (.int .u8 0) (n + 13)).set 0 x).toArray 5)).ownsRow B 5 1 (.slice (some ⟨w.heap.size, 0, none⟩) 1 (n + 13)) 1 [x] := by
  refine ⟨rfl, .inr ⟨w.heap.size, n + 13, _, rfl, hB, heap_top _ _ _ rfl, by omega, small_max _ (by omega), by simp [fill], ?_⟩⟩
  simp [fill, List.replicate_succ]
theorem byt_byts (bs : Nat → Int) (n : Nat) : Byt (byts bs n) := fun v hv => by
  simp only [byts, List.mem_map] at hv
  obtain ⟨j, _, rfl⟩ := hv
  exact ⟨_, rfl⟩
theorem news_heap {w : World} {g : Nat} {xs : List Value} {t : TypeId} {fr : Nat × Nat} (h : w.heap[g]? = some (.cells xs.toArray t fr)) : ∀ j u, xs[j]? = some u → w.cell? ((⟨g, 0, none⟩ : Addr).add j) = some u := by
  intro j u hj
  have := cell_heap h j u (by simpa using hj)
  rw [show (⟨g, 0, none⟩ : Addr).add j = ⟨g, j, none⟩ by simp [Addr.add]; exact fun h => h.symm]
  exact this
theorem own_byte {w : World} {B n G c : Nat} {xs : List Value} (hown : w.ownsRow B 5 1 (.slice (some ⟨G, 0, none⟩) n c) n xs) (hb : Byt xs) : ∀ j, j < n → ∃ z, w.cell? ⟨G, j, none⟩ = some (.int .u8 z) := by
  intro j hj
  rw [hown.cellAt j (by omega)]
  have hl := hown.1
  obtain ⟨z, hz⟩ := hb (xs[j]'(by omega)) (List.getElem_mem _)
  exact ⟨z, by rw [← hz]; simp⟩
theorem own_first {w : World} {B n : Nat} {v x : Value} {xs : List Value} (hown : w.ownsRow B 5 1 v n (x :: xs)) (hn : 0 < n) : ∃ G c, v = .slice (some ⟨G, 0, none⟩) n c ∧ B ≤ G ∧ w.cell? ⟨G, 0, none⟩ = some x := by
  obtain ⟨G, c, rfl, hB, _⟩ := hown.form hn
  exact ⟨G, c, rfl, hB, by rw [hown.cellAt 0 (by omega)]; rfl⟩

set_option maxHeartbeats 4000000 in
set_option maxRecDepth 100000 in
theorem marshal_any (h wb l : Bool) (D S Fn Nm Sy : Int) (g n : Nat) (bs : Nat → Int) (w : World) (hn : n ≤ 244) (hg : w.heap[g]? = some (.cells (byts bs n).toArray 5 (0, 0)))
    (hD : 0 ≤ D ∧ D ≤ 32767) (hS : 0 ≤ S ∧ S ≤ 127) (hFn : 0 ≤ Fn ∧ Fn ≤ 255) (hNm : 0 ≤ Nm ∧ Nm ≤ 32767) (hSy : 0 ≤ Sy ∧ Sy ≤ 4294967295) :
    Calls Ybaf.prog 35 #[.agg #[.bool h, .int .u16 D, .bool wb, .int .u8 S, .int .u8 Fn, .bool l, .int .u16 Nm, .int .u32 Sy, .slice (some ⟨g, 0, none⟩) n n]] w fun e w' =>
      ∃ G c, e = .returned (.tuple #[.slice (some ⟨G, 0, none⟩) (n + 13) c, .nilIface]) ∧ w.heap.size ≤ G ∧ w'.cell? ⟨G, 0, none⟩ = some (.int .u8 (n + 10)) ∧ Below w.heap.size w w' := by
  have mk := fun wx => make1 n (1 + (10 + n) + 2) hn (by omega) wx
  go_enter Ybaf.func35, Ybaf.ntmps35
  go_wp2_with fail
  refine (check_any h wb l D S Fn Nm Sy _ n n _ hn hD hS hNm).mono ?_
  rintro e w1 ⟨rfl, hk1⟩
  have hh1 : w1.heap[w.heap.size]? = some (.cells #[.bool h, .int .u16 D, .bool wb, .int .u8 S, .int .u8 Fn, .bool l, .int .u16 Nm, .int .u32 Sy, .slice (some ⟨g, 0, none⟩) n n] 51 (0, 0)) := (hk1.block w.heap.size (by simp) (by rw [heap_top _ _ _ rfl]; intro c fr e; simp at e)).trans (heap_top _ _ _ rfl)
  have c0 := cell_heap hh1 0 (.bool h) rfl
  have c1 := cell_heap hh1 1 (.int .u16 D) rfl
  have c2 := cell_heap hh1 2 (.bool wb) rfl
  have c3 := cell_heap hh1 3 (.int .u8 S) rfl
  have c4 := cell_heap hh1 4 (.int .u8 Fn) rfl
  have c5 := cell_heap hh1 5 (.bool l) rfl
  have c6 := cell_heap hh1 6 (.int .u16 Nm) rfl
  have c7 := cell_heap hh1 7 (.int .u32 Sy) rfl
  have c8 := cell_heap hh1 8 (.slice (some ⟨g, 0, none⟩) n n) rfl
  have hs1 : w.heap.size < w1.heap.size := lt_of_heap hh1
  have HK1 : Hid (Keeps w.heap.size w w1) := ((Keeps.refl _ _).alloc _ (Nat.le_refl _)).trans ⟨hk1.below.mono (by simp), hk1.size, hk1.block⟩
  have HH1 : Hid (w1.heap[w.heap.size]? = some _) := hh1
  have HG : Hid (w.heap[g]? = some (.cells (byts bs n).toArray 5 (0, 0))) := hg
  have hgl := lt_of_heap hg
  clear hk1 hh1 hg
  go_wp2_with fail
  refine (appendTo_any h wb l D S Fn Nm Sy _ 1 w.heap.size [.int .u8 (10 + n)] _ (own_made _ _ _ w1 (by omega) hn) (by simp; omega) (by omega) hD hS hFn hNm hSy).mono ?_
  rintro e w2 ⟨sv2, ys2, rfl, hl2, hy2, hown2, hk2⟩
  have hh2 := (hk2.block w.heap.size (by simp; omega) (by rw [Below.heap_alloc _ _ _ hs1, HH1.out]; intro c fr e; simp at e)).trans ((Below.heap_alloc _ _ _ hs1).trans HH1.out)
  have k8 := cell_heap hh2 8 (.slice (some ⟨g, 0, none⟩) n n) rfl
  have hs2 : w.heap.size < w2.heap.size := lt_of_heap hh2
  have HB2 : Hid (Keeps w.heap.size w w2) := (HK1.out.alloc _ (by omega)).trans hk2
  have HG2 : Hid (w2.heap[g]? = some (.cells (byts bs n).toArray 5 (0, 0))) := (HB2.out.below.block g hgl).trans HG.out
  have HO2 : Hid (w2.ownsRow w.heap.size 5 1 sv2 11 ([.int .u8 (10 + n)] ++ ys2)) := hown2
  clear hk2 hown2 hh2 c0 c1 c2 c3 c4 c5 c6 c7 c8 HK1 HH1 mk
  obtain ⟨i0, hi, hz0, hz1, hz2⟩ := info_parts info5
  go_wp2_with (at_builtin; refine wpList_append_own _ rfl (.tmp 28) (.tmp 30) 31 rfl w.heap.size 5 i0 (.int .u8 0) 1 1 Ybaf.underlying31 hi hz0 hz1 hz2 rfl (by decide) _ _ _ rfl HO2.out ⟨g, 0, none⟩ n n (byts bs n) rfl ((byts_len bs n).trans (Nat.mul_one n).symm) (news_heap HG2.out) (byts_one bs n) (small_max _ (by omega)) (by omega) (by omega) ?_)
  intro v3 w3 hown3 hgrow3 _
  have hb3 : Byt ([.int .u8 (10 + n)] ++ ys2 ++ byts bs n) := (Byt.nil.cons.append hy2).append (byt_byts bs n)
  have HB3 : Hid (Below w.heap.size w w3) := HB2.out.below.grown hgrow3 (by omega) (own_ge HO2.out)
  obtain ⟨G, c, hv3, hG, hG3⟩ := hown3.form (by omega)
  subst hv3
  have HS3 : Hid (∀ j, j < 10 + n → ∃ z, w3.cell? ⟨G, 1 + j, none⟩ = some (.int .u8 z)) := fun j hj => own_byte hown3 hb3 (1 + j) (by omega)
  have hown3' : w3.ownsRow w.heap.size 5 1 (.slice (some ⟨G, 0, none⟩) (11 + n) c) (11 + n) (.int .u8 (10 + n) :: (ys2 ++ byts bs n)) := by simpa using hown3
  have HO3 : Hid (w3.ownsRow w.heap.size 5 1 (.slice (some ⟨G, 0, none⟩) (11 + n) c) (11 + n) (.int .u8 (10 + n) :: (ys2 ++ byts bs n))) := hown3'
  have hsz3 := HB3.out.size
  have hnc : 11 + n ≤ c := by
    rcases hown3.2 with ⟨e, _⟩ | ⟨_, _, _, e, _, _, hc, _⟩
    · simp at e
    · simp only [Value.slice.injEq] at e; omega
  clear hown3 hown3' hgrow3 hb3 HG HG2 HO2 HB2 hi hz0 hz1 hz2 k8
  go_wp2_with fail
  go_region_held (fun w' => True) (trivial) ((first | (go_at_call 32; refine (sum_any G _ _ _ ?_ ?_).mono ?_; (· omega); (· intro j hj; exact HS3.out j (by omega)); rintro e wz ⟨zs, rfl, hzs, rfl⟩) | (go_at_call 40; refine (app16 _ (11 + n) w.heap.size _ _ _ (HO3.out.drew) ?_ ?_ ?_).mono ?_; (· simp; omega); (· omega); (· assumption); rintro e w4 ⟨sv4, ys4, rfl, hl4, hy4, hown4, hk4⟩)))
  all_goals
    go_wp2
    obtain ⟨G4, c4, rfl, hG4, hc4⟩ := own_first hown4 (by omega)
    refine bodyPost_ret (v := .tuple #[.slice (some ⟨G4, 0, none⟩) (11 + n + 2) c4, .nilIface]) (by simp [results, Ybaf.results35, go_sem]) rfl ⟨G4, c4, ?_, hG4, ?_, HB3.out.trans hk4.undrew.below⟩
    · rw [show n + 13 = 11 + n + 2 by omega]
    · rw [hc4, show (n : Int) + 10 = 10 + n by omega]
end Go.Proofs.YbulkaqtiFmt
