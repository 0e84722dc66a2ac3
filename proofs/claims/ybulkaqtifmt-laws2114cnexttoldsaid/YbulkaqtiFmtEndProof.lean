/-
  THE ROW OF LawS2114CEnd, AND ITS TOLD AND TIED CARD, after the guide's Derived/Test/GuardTold.lean, MapyProofs.lean and PortSeven.lean, turned to this program. fmt is not come to on any road of this law: its told text is never asked.
-/
import Derived.Test.YbulkaqtiFmtOpen
import Derived.Test.YbulkaqtiFmtTie
import Derived.Test.YbulkaqtiFmtCards
import Derived.LaidMore
import Derived.Stop.Joined
import Derived.Stop.JoinedTold
import Derived.Stop.LaidErr
import Derived.SevenTiedAt
namespace Go.Proofs.YbulkaqtiFmt
open Go.ChangeShapes Go.WideShapes Go.ChangeAt Go.RowKit
open Go.Extern.Stop Go.Stop Go.Extern

theorem own : ownKnob Ybaf.prog.godebug = none := by kernel_rfl
theorem laidOut : laidOutB Ybaf.prog = true := by kernel_rfl
theorem laidOutP : laidOutB Ybaf.pinned.checked.prog = true := by kernel_rfl
theorem stops : Ybaf.pinned.checked.prog.stops = Rows.lawS2114CEndRow.stops := by kernel_rfl
theorem stopKnobs : Ybaf.pinned.checked.prog.stopKnobs = [] := by kernel_rfl
theorem quiet (os : Os) : Stop.quiet Ybaf.pinned.checked.prog os := by
  intro k hk
  rw [stopKnobs] at hk
  cases hk
/-- the listed variable's name, as the row lists it -/
def errName : String := (Rows.lawS2114CEndRow.laid.headD ("", .nil)).1
theorem gErr : Ybaf.prog.globalNamed errName = some 1 := by kernel_rfl
theorem gErrType : (Ybaf.prog.globals[1]?).map (·.type) = some 88 := by kernel_rfl

set_option maxHeartbeats 1000000 in
set_option maxRecDepth 100000 in
theorem end_big (r0 ret : Int) (s u c : Bool) (ad : Option Addr) (len cap : Nat) (w : World) (h : 1024 < len) :
    Calls Ybaf.prog 5 #[.int .i64 r0, .int .i64 ret, .bool s, .bool u, .bool c, .slice ad len cap] w fun e w' => e = .returned (.bool true) ∧ Below w.heap.size w w' := by
  go_enter Ybaf.func5, Ybaf.ntmps5
  go_wp2_with fail
  go_ret
  exact ⟨rfl, Below.refl _ _⟩

theorem end_all (r0 ret : Int) (s u c : Bool) (ad : Option Addr) (len cap : Nat) (w : World)
    (hq : ∀ wx, Below w.heap.size w wx → ∀ k : Nat, k < len → ∃ b off, ad = some ⟨b, off, none⟩ ∧ ∃ h wb l dev st fn num sys ad' len' cap' bs, BlkAt wx b (off + k * 9) h wb l dev st fn num sys ad' len' cap' bs) :
    Calls Ybaf.prog 5 #[.int .i64 r0, .int .i64 ret, .bool s, .bool u, .bool c, .slice ad len cap] w fun e w' => e = .returned (.bool true) ∧ Below w.heap.size w w' := by
  by_cases hbig : 1024 < len
  · exact end_big r0 ret s u c ad len cap w hbig
  · have hl : len ≤ 1024 := by omega
    cases s <;> cases u <;> cases c
    · exact end_fnn r0 ret ad len cap w hl hq
    · exact end_fcn r0 ret ad len cap w hl hq
    · exact end_fnu r0 ret ad len cap w hl hq
    · exact end_fcu r0 ret ad len cap w hl hq
    · exact end_tnn r0 ret ad len cap w hl
    · exact end_tcn r0 ret ad len cap w hl
    · exact end_tnu r0 ret ad len cap w hl
    · exact end_tcu r0 ret ad len cap w hl


theorem door_met (os : Os) (args : Array Value) : laidMetH Ybaf.prog Rows.lawS2114CEndRow.laid ((World.doorLaid Ybaf.prog 28 os).forCall (fun _ _ => 0) ⟨#[], args, []⟩).memory :=
  laidMetH_of_parts3 (fuel := 8) (laidMet_of_run' 8 (by kernel_rfl) (by kernel_rfl)) (by kernel_rfl) (by kernel_rfl)

theorem var_below {P : Program} {B g : Nat} {W W' : World} {n : String} {cs : Array Value} (h : Below B W W') (hg : P.globalNamed n = some g) (hgB : g < B) (hv : W.var? P n = some cs) : W'.var? P n = some cs := by
  unfold World.var? at hv ⊢
  simp only [hg, Option.bind_some] at hv ⊢
  rw [h.block g hgB]
  exact hv

set_option maxRecDepth 100000 in
theorem end_lifted (os : Os) (started : os.Started) (H : Type) (enc : TypeId × Value → H) :
    ReturnsInTold none {} Ybaf.checked os 5 .any Input.okWide ((OpenSpec.ofChange Rows.lawS2114CEndSpec).preRow enc Ybaf.prog Ybaf.f5 [] false Rows.lawS2114CEndRow.laid) (fun F => ((OpenSpec.ofChange Rows.lawS2114CEndSpec).at F).post enc Ybaf.prog Ybaf.f5 false true false false) (aloneAtReturn Ybaf.prog) nothingAlways := by
  refine returnsInTold_of_row (C := Ybaf.checked) (s := OpenSpec.ofChange Rows.lawS2114CEndSpec) (by kernel_rfl) own started (by kernel_rfl) Ybaf.func5
    (OpenSpec.witness_stopped_at (enc := enc) (C := Ybaf.checked) false (World.doorLaid Ybaf.prog 28 os) #[.int .i64 0, .int .i64 0, .bool false, .bool false, .bool false, .slice none 0 0] rfl (by kernel_rfl) (by kernel_rfl) (by kernel_rfl)
      (OpenSpec.preRow_of_B rfl 8 (by kernel_rfl) (by kernel_rfl) (door_met os _))) ?_
  intro F W base args ds gs before _ hF hval0 hW _ _ _ hL _
  have hval : ∀ (j : Nat) t v, Ybaf.f5.params[j]? = some t → args[j]? = some v → Value.okWide Ybaf.prog W .any base t v := hval0
  have hW' := hW
  obtain ⟨p, q, hA0, hV0, rfl, hfz, hnd⟩ := hW
  have hA : DataW.TrodAll enc Ybaf.prog W 0 (fun _ => true) true Ybaf.f5.params.toList args.toList ds p := hA0
  have hV : DataW.TrodVars enc Ybaf.prog W (fun _ => true) [errName] gs q := hV0
  rw [Ybaf.params5] at hA hval
  obtain ⟨v0, vs0, d0, ds0, p0, q0, hargs, rfl, rfl, h0, r0⟩ := trodAll_cons hA
  obtain ⟨v1, vs1, d1, ds1, p1, q1, rfl, rfl, rfl, h1, r1⟩ := trodAll_cons r0
  obtain ⟨v2, vs2, d2, ds2, p2, q2, rfl, rfl, rfl, h2, r2⟩ := trodAll_cons r1
  obtain ⟨v3, vs3, d3, ds3, p3, q3, rfl, rfl, rfl, h3, r3⟩ := trodAll_cons r2
  obtain ⟨v4, vs4, d4, ds4, p4, q4, rfl, rfl, rfl, h4, r4⟩ := trodAll_cons r3
  obtain ⟨v5, vs5, d5, ds5, p5, q5, rfl, rfl, rfl, h5, r5⟩ := trodAll_cons r4
  obtain ⟨rfl, rfl, rfl⟩ := trodAll_nil r5
  obtain rfl : args = #[v0, v1, v2, v3, v4, v5] := by cases args; simp_all
  obtain ⟨a0, rfl, rfl, rfl, w0⟩ := open_int Ybaf.underlying3 (hval 0 3 v0 rfl rfl) h0
  obtain ⟨a1, rfl, rfl, rfl, w1⟩ := open_int Ybaf.underlying3 (hval 1 3 v1 rfl rfl) h1
  obtain ⟨b2, rfl, rfl, rfl⟩ := open_bool Ybaf.underlying4 (hval 2 4 v2 rfl rfl) h2
  obtain ⟨b3, rfl, rfl, rfl⟩ := open_bool Ybaf.underlying4 (hval 3 4 v3 rfl rfl) h3
  obtain ⟨b4, rfl, rfl, rfl⟩ := open_bool Ybaf.underlying4 (hval 4 4 v4 rfl rfl) h4
  obtain ⟨ad, len, cap, rfl⟩ := okWide_slice Ybaf.underlying44 (hval 5 44 v5 rfl rfl)
  obtain ⟨g, t, cs, fuel, dv, pv, rfl, hg, hgt, hvar, htr, rfl⟩ := trodVars_one hV
  obtain rfl := Option.some.inj (gErr.symm.trans hg)
  obtain rfl := Option.some.inj (gErrType.symm.trans hgt)
  obtain ⟨x, rfl, ix, rfl, rfl, hcell⟩ := token_of gErr Ybaf.underlying88 hvar htr
  have hg1 : 1 < W.heap.size := World.block_lt_of_cell? _ _ hcell
  clear hA0 hval0
  simp only [List.append_nil, List.nil_append] at hW'
  have hlt5 : ∀ y ∈ p5, y.block < W.heap.size := fun y hy => by simpa using hW'.lt y (by simp [hy])
  refine (end_all a0 a1 b2 b3 b4 ad len cap W (qs_open h5).2).mono fun e W' ⟨he, hb⟩ => ?_
  subst he
  refine ⟨_, rfl, _, _, _, [], [] ++ ([] ++ ([] ++ ([] ++ ([] ++ (p5 ++ []))))), [.cell 1 0], hW', ?_, ?_, ?_, hb.frame _, fun h => by cases h⟩
  · exact trodAll_cons_mk (shut_bool Ybaf.underlying4 _) trodAll_mk0
  · exact trodAll_cons_mk (shut_int Ybaf.underlying3 w0) (trodAll_cons_mk (shut_int Ybaf.underlying3 w1) (trodAll_cons_mk (shut_bool Ybaf.underlying4 _) (trodAll_cons_mk (shut_bool Ybaf.underlying4 _) (trodAll_cons_mk (shut_bool Ybaf.underlying4 _) (trodAll_cons_mk (Below.trod laidOut (by kernel_rfl) (of_decide_eq_true (by kernel_rfl)) h5 hb hlt5) trodAll_mk0)))))
  · exact vars_read1 enc gErr gErrType Ybaf.underlying88 (var_below hb gErr hg1 hvar) ix _

/-- THE STATEMENT: THE TOLD AND TIED CARD -/
theorem lawS2114CEnd_card : Rows.LawS2114CEndToldSaid :=
  Claim7.holds_of_told_tied_any_at .later 5 Ybaf.f5 "fmt.errorf" [] [] Rows.lawS2114CEndCard.stood.harness false false [.sentinel] true (by kernel_rfl) rfl rfl rfl laidOutP (by kernel_rfl) rfl ⟨rfl, rfl, rfl, rfl, rfl, rfl, rfl⟩ rfl rfl (by kernel_rfl) (by kernel_rfl) Ybaf.func5 (by kernel_rfl)
    (of_decide_eq_true (by kernel_rfl)) (of_decide_eq_true (by kernel_rfl)) stops.symm rfl stopKnobs.symm (by kernel_rfl)
    (by kernel_rfl) (by kernel_rfl) (by kernel_rfl) (by kernel_rfl) (by kernel_rfl) (by kernel_rfl) (by kernel_rfl) (by kernel_rfl) (by kernel_rfl) rfl (by kernel_rfl) rfl rfl
    rfl rfl
    rfl (by kernel_rfl) (by kernel_rfl) (by kernel_rfl) (by decide) (by kernel_rfl) lawS2114CEnd_row_tie
    (OpenClaim.moreEntering_of (by kernel_rfl) (by kernel_rfl) (by kernel_rfl) (by kernel_rfl) (by kernel_rfl) (by kernel_rfl) (by kernel_rfl) (by kernel_rfl) (by kernel_rfl) (by kernel_rfl))
    ⟨_, WideRow.started_initial, quiet _⟩
    (fun os started _ H enc _ => end_lifted os started H enc)
end Go.Proofs.YbulkaqtiFmt
