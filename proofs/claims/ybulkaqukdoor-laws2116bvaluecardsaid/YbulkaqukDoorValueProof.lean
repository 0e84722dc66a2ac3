/-
  THE ROW OF LawS2116BValue AND ITS TIED CARD, after the guide's Derived/Test/MapyProofs.lean and MapyCard.lean, turned to this program.
-/
import Derived.Test.YbulkaqukDoorValue
import Derived.Test.YbulkaqukDoorTie
import Derived.Test.YbulkaqukDoorCards
import Derived.ProofKit
import Derived.LaidMore
import Derived.OpenShut
import Derived.Stop.Joined
import Derived.Lib.LaidTab
import Derived.SevenTiedAt
namespace Go.Proofs.YbulkaqukDoor
open Go.ChangeShapes Go.WideShapes Go.ChangeAt Go.RowKit Num

theorem own : ownKnob Ybad.prog.godebug = none := by kernel_rfl
/-- the table's name, as the row lists it -/
def tabName : String := (Rows.lawS2116BValueRow.laid.headD ("", .nil)).1
def tabInts : List Int := Lib.deBruijn64tab.map Int.ofNat
theorem gTab : Ybad.prog.globalNamed tabName = some 0 := by kernel_rfl
theorem gTabType : (Ybad.prog.globals[0]?).map (·.type) = some 39 := by kernel_rfl
theorem cells5 : Ybad.prog.cellsOf 5 = 1 := by kernel_rfl
theorem cells39 : Ybad.prog.cellsOf 39 = 64 := by kernel_rfl
theorem laid_is : Rows.lawS2116BValueRow.laid = (tabName, Lib.tabData .u8 tabInts) :: [] := by kernel_rfl

theorem door_met (os : Os) (args : Array Value) : laidMetH Ybad.prog Rows.lawS2116BValueRow.laid ((World.doorLaid Ybad.prog 14 os).forCall (fun _ _ => 0) ⟨#[], args, []⟩).memory :=
  laidMetH_of_parts3 (fuel := 8) (laidMet_of_run' 8 (by kernel_rfl) (by kernel_rfl)) (by kernel_rfl) (by kernel_rfl)

theorem tab_of_laid {W : World} (h : laidMetH Ybad.prog Rows.lawS2116BValueRow.laid W) : Tab W ∧ 0 < W.heap.size := by
  rw [MakeChecks.laidMetH_plain _ _ _ (by kernel_rfl), laid_is] at h
  have hT := Lib.tabIs_of_head gTab gTabType Ybad.underlying39 Ybad.underlying5 cells5 cells39 h
  have key : Tab W := by
    intro j hj
    have := hT.cell gTab j (by simpa [tabInts] using hj)
    rw [this]
    congr 2
    simp [tabInts, List.getD, hj]
  exact ⟨key, World.block_lt_of_cell? _ _ (key 0 (by decide))⟩

theorem u64_nat {a : Int} (h : (Lit.int .u64 a).wf = true) : ∃ n : Nat, a = n ∧ n < 18446744073709551616 := by
  have := bounds_u64 h
  exact ⟨a.toNat, by omega, by omega⟩

set_option maxRecDepth 100000 in
theorem value_lifted (os : Os) (started : os.Started) (H : Type) (enc : TypeId × Value → H) :
    ReturnsInHanded {} Ybad.checked os 4 .any (fun w args => (Rows.lawS2116BValueSpec.pre enc Ybad.prog Ybad.f4 [] false w args ∧ laidMetH Ybad.prog Rows.lawS2116BValueRow.laid w) ∧ sizedMet enc Ybad.prog Ybad.f4 (OpenSpec.ofChange Rows.lawS2116BValueSpec) false w args)
      (Rows.lawS2116BValueSpec.post enc Ybad.prog Ybad.f4 false true false false) := by
  refine returnsInHanded_of_change_and (C := Ybad.checked) (X := fun w _ => laidMetH Ybad.prog Rows.lawS2116BValueRow.laid w) (fun _ _ _ hh h => h.of_heap hh) own started (by kernel_rfl) Ybad.func4
    (ChangeSpec.witness_shaped (enc := enc) (C := Ybad.checked) (os := os) (X := fun w _ => laidMetH Ybad.prog Rows.lawS2116BValueRow.laid w) false (World.doorLaid Ybad.prog 14 os) #[.int .u8 0, .bool false, .int .u64 0, .int .u64 0] 8 rfl (World.shaped_of_RefB (by kernel_rfl) (by kernel_rfl)) (by kernel_rfl) (by kernel_rfl) (by kernel_rfl) (door_met os _)) ?_
  intro W base args ds gs before hval0 hW _ _ hL _
  have hval : ∀ (j : Nat) t v, Ybad.f4.params[j]? = some t → args[j]? = some v → Value.okWide Ybad.prog W .any base t v := hval0
  have hW' := hW
  obtain ⟨p, q, hA0, hV, rfl, hfz, hnd⟩ := hW
  have hA : DataW.TrodAll enc Ybad.prog W 0 (fun _ => true) true Ybad.f4.params.toList args.toList ds p := hA0
  rw [Ybad.params4] at hA hval
  obtain ⟨v0, vs0, d0, ds0, p0, q0, hargs, rfl, rfl, h0, r0⟩ := trodAll_cons hA
  obtain ⟨v1, vs1, d1, ds1, p1, q1, rfl, rfl, rfl, h1, r1⟩ := trodAll_cons r0
  obtain ⟨v2, vs2, d2, ds2, p2, q2, rfl, rfl, rfl, h2, r2⟩ := trodAll_cons r1
  obtain ⟨v3, vs3, d3, ds3, p3, q3, rfl, rfl, rfl, h3, r3⟩ := trodAll_cons r2
  obtain ⟨rfl, rfl, rfl⟩ := trodAll_nil r3
  obtain rfl : args = #[v0, v1, v2, v3] := by cases args; simp_all
  obtain ⟨rfl, rfl⟩ := trodVars_none hV
  obtain ⟨a0, rfl, rfl, rfl, w0⟩ := open_int Ybad.underlying5 (hval 0 5 v0 rfl rfl) h0
  obtain ⟨neg, rfl, rfl, rfl⟩ := open_bool Ybad.underlying4 (hval 1 4 v1 rfl rfl) h1
  obtain ⟨a2, rfl, rfl, rfl, w2⟩ := open_int Ybad.underlying23 (hval 2 23 v2 rfl rfl) h2
  obtain ⟨a3, rfl, rfl, rfl, w3⟩ := open_int Ybad.underlying23 (hval 3 23 v3 rfl rfl) h3
  obtain ⟨hT, hsz⟩ := tab_of_laid hL
  obtain ⟨ex, rfl, hex⟩ := u64_nat w2
  obtain ⟨fr, rfl, hfr⟩ := u64_nat w3
  have hb0 := bounds_u8 w0
  clear hA0 hval0
  simp only [List.append_nil] at hW'
  refine (value_walk a0 hb0.1 hb0.2 neg ex fr hex hfr W hT hsz).mono fun e W' ⟨he, hg⟩ => ?_
  subst he
  refine ⟨_, rfl, _, _, _, [], [], [], hW', ?_, ?_, ?_, hg.frame _, fun h => by cases h⟩
  · exact trodAll_cons_mk (shut_bool Ybad.underlying4 _) trodAll_mk0
  · exact trodAll_cons_mk (shut_int Ybad.underlying5 w0) (trodAll_cons_mk (shut_bool Ybad.underlying4 _) (trodAll_cons_mk (shut_int Ybad.underlying23 w2) (trodAll_cons_mk (shut_int Ybad.underlying23 w3) trodAll_mk0)))
  · rfl

theorem value_holds : Rows.LawS2116BValueSaid :=
  OpenClaim.holds_of_wide 4 Ybad.f4 rfl rfl rfl rfl rfl rfl rfl ⟨rfl, rfl, rfl, rfl, rfl⟩ rfl rfl rfl rfl rfl (by kernel_rfl) Ybad.func4 (by kernel_rfl)
    (of_decide_eq_true (by kernel_rfl)) (by unfold Func.isWrapper; first | (rw [if_pos (by decide +kernel)]; kernel_rfl) | (rw [if_neg (by decide +kernel)]; exact ⟨rfl, rfl⟩))
    (fun os started H enc _ => value_lifted os started H enc)

/-- THE STATEMENT: THE TIED CARD -/
theorem lawS2116BValue_card : Rows.LawS2116BValueCardSaid :=
  Claim7.holds_tied_plain_at .later [] [.data] true Rows.lawS2116BValueCard.stood.harness false
    value_holds (fun _ h => by cases h) (by kernel_rfl) (fun _ h => by cases h) lawS2116BValue_row_tie rfl ⟨rfl, rfl⟩ (by kernel_rfl) rfl
    (fun f fn hf hfn => by
      obtain rfl : f = 4 := Option.some.inj ((show Ybad.prog.funcNamed Rows.lawS2116BValueRow.func = some 4 by kernel_rfl).symm.trans hf) |>.symm
      obtain rfl : fn = Ybad.f4 := (Option.some.inj (Ybad.func4.symm.trans hfn)).symm
      exact ⟨by kernel_rfl, fun j t ht => by
        rw [Ybad.params4] at ht
        have hm : t ∈ [5, 4, 23, 23] := by simpa using Array.mem_of_getElem? ht
        have hall : ([5, 4, 23, 23].all fun u => !Ybad.prog.wantsStandIn u) = true := by kernel_rfl
        exact (show Ybad.prog.wantsStandIn t = false by simpa using List.all_eq_true.1 hall t hm)⟩)
    (by kernel_rfl)
end Go.Proofs.YbulkaqukDoor
