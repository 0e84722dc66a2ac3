/-
  PROOF OF 'Rows.LawS2116CTableSaid'. The row's step is the guide's shell for this function; the walk and the plain law are this seat's.
-/
import Derived.Test.YbulkaqukRows
import Derived.WalkKit
import Derived.ProofKit
import Derived.OpenShut
import Derived.ShutString
namespace Go.Proofs.Ybulkaquk.lawS2116CTable
open Go.ChangeShapes Go.WideShapes Go.ChangeAt Go.RowKit
open Go.ChangeMaps (open_string shut_string)
set_option linter.unusedVariables false

theorem own : ownKnob Yba.prog.godebug = none := by kernel_rfl

/-- what 'want' holds behind k rounds -/
def tab (a : Int) (k : Nat) : Int := if 65 ≤ a ∧ a < 65 + k then a + 32 else a

theorem up_at (k : Nat) (h : k < 26) (h' : k < (ByteArray.mk #[65, 66, 67, 68, 69, 70, 71, 72, 73, 74, 75, 76, 77, 78, 79, 80, 81, 82, 83, 84, 85, 86, 87, 88, 89, 90]).size) :
    (((ByteArray.mk #[65, 66, 67, 68, 69, 70, 71, 72, 73, 74, 75, 76, 77, 78, 79, 80, 81, 82, 83, 84, 85, 86, 87, 88, 89, 90])[k].toNat : Nat) : Int) = 65 + k := by
  have key : ∀ j : Fin 26, ((ByteArray.mk #[65, 66, 67, 68, 69, 70, 71, 72, 73, 74, 75, 76, 77, 78, 79, 80, 81, 82, 83, 84, 85, 86, 87, 88, 89, 90])[j.val]'(by have := j.isLt; exact this)).toNat = 65 + j.val := by decide
  have := key ⟨k, h⟩
  simp only at this
  rw [this]; omega
theorem lo_at (k : Nat) (h : k < 26) (h' : k < (ByteArray.mk #[97, 98, 99, 100, 101, 102, 103, 104, 105, 106, 107, 108, 109, 110, 111, 112, 113, 114, 115, 116, 117, 118, 119, 120, 121, 122]).size) :
    (((ByteArray.mk #[97, 98, 99, 100, 101, 102, 103, 104, 105, 106, 107, 108, 109, 110, 111, 112, 113, 114, 115, 116, 117, 118, 119, 120, 121, 122])[k].toNat : Nat) : Int) = 97 + k := by
  have key : ∀ j : Fin 26, ((ByteArray.mk #[97, 98, 99, 100, 101, 102, 103, 104, 105, 106, 107, 108, 109, 110, 111, 112, 113, 114, 115, 116, 117, 118, 119, 120, 121, 122])[j.val]'(by have := j.isLt; exact this)).toNat = 97 + j.val := by decide
  have := key ⟨k, h⟩
  simp only at this
  rw [this]; omega

theorem tab_hit (a x y : Int) (k : Nat) (hx : x = 65 + k) (hy : y = 97 + k) (h : (x == a) = true) : y = tab a (k + 1) := by
  have := eq_of_beq h
  unfold tab; rw [if_pos (by omega)]; omega
theorem tab_miss (a x : Int) (k : Nat) (hx : x = 65 + k) (h : (x == a) = false) : tab a k = tab a (k + 1) := by
  have := beq_eq_false_iff_ne.1 h
  unfold tab
  by_cases c : 65 ≤ a ∧ a < 65 + k
  · rw [if_pos c, if_pos (by omega)]
  · rw [if_neg c, if_neg (by omega)]
theorem tab_in (a : Int) (h1 : 65 ≤ a) (h2 : a ≤ 90) : (a + 32 == tab a 26) = true := by
  unfold tab; rw [if_pos (by omega)]; simp
theorem tab_out (a : Int) (h : ¬ (65 ≤ a ∧ a ≤ 90)) : (a == tab a 26) = true := by
  unfold tab; rw [if_neg (by omega)]; simp
theorem ret_bool {a b : Bool} (h : a = b) : Ending.returned (.bool a) = .returned (.bool b) := by rw [h]
theorem u8_eq {a b : Int} (h : a = b) : Value.int .u8 a = .int .u8 b := by rw [h]

set_option maxHeartbeats 1000000 in
theorem walk (a0 : Int) (w0 : (Lit.int .u8 a0).wf = true) (w : World) :
    Calls Yba.prog 3 #[.int .u8 a0] w fun e w' => e = .returned (.bool true) ∧ Grown w w' := by
  have hb := bounds_u8 w0
  go_enter Yba.func3, Yba.ntmps3
  go_wp2
  go_loop [3, 4] (fun t i => ∃ k : Nat, k ≤ 26 ∧ i = .int .i64 k ∧ t = .int .u8 (tab a0 k)) (fun _ i => (26 - intOf i).toNat)
  case atStart => exact ⟨0, by omega, rfl, u8_eq (by unfold tab; rw [if_neg (by omega)])⟩
  case round =>
    obtain ⟨k, hk, rfl, rfl⟩ := hrel
    by_cases hlt : k < 26
    · go_wp2
      · refine ⟨⟨k + 1, by omega, by go_num, u8_eq ?_⟩, by simp [intOf]; omega⟩
        exact tab_hit a0 _ _ k (up_at k hlt _) (lo_at k hlt _) (by assumption)
      · refine ⟨⟨k + 1, by omega, by go_num, u8_eq ?_⟩, by simp [intOf]; omega⟩
        exact tab_miss a0 _ k (up_at k hlt _) (by assumption)
    · obtain rfl : k = 26 := by omega
      by_cases c1 : 65 ≤ a0
      · by_cases c2 : a0 ≤ 90
        · go_wp2
          go_ret
          exact ⟨ret_bool (tab_in a0 c1 c2), Grown.refl _⟩
        · go_wp2
          go_ret
          exact ⟨ret_bool (tab_out a0 (by omega)), Grown.refl _⟩
      · go_wp2
        go_ret
        exact ⟨ret_bool (tab_out a0 (by omega)), Grown.refl _⟩

/-! ### THE ROW's STEP: WRITTEN OUT: LEAVE IT -/
set_option maxRecDepth 100000 in
theorem lifted (os : Os) (started : os.Started) (H : Type) (enc : TypeId × Value → H) :
    ReturnsInHanded {} Yba.checked os 3 .any (Rows.lawS2116CTableSpec.pre6 enc Yba.prog Yba.f3 Rows.lawS2116CTableRow.domain false) (Rows.lawS2116CTableSpec.post enc Yba.prog Yba.f3 false true false false) := by
  refine returnsInHanded_of_change (C := Yba.checked) own started (by kernel_rfl) Yba.func3
    (ChangeSpec.witness6 (enc := enc) (C := Yba.checked) false ⟨#[], #[.int .u8 0], []⟩ 8 (by kernel_rfl) (by kernel_rfl) (by kernel_rfl) (by kernel_rfl)) ?_
  intro W base args ds gs before hval0 hW hcnd _
  have hval : ∀ (j : Nat) t v, Yba.f3.params[j]? = some t → args[j]? = some v → Value.okWide Yba.prog W .any base t v := hval0
  have hW' := hW
  obtain ⟨p, q, hA0, hV, rfl, hfz, hnd⟩ := hW
  have hA : DataW.TrodAll enc Yba.prog W 0 (fun _ => true) true Yba.f3.params.toList args.toList ds p := hA0
  rw [Yba.params3] at hA hval
  obtain ⟨v0, vs0, d0, ds0, p0, q0, hargs, rfl, rfl, h0, r0⟩ := trodAll_cons hA
  obtain ⟨rfl, rfl, rfl⟩ := trodAll_nil r0
  obtain rfl : args = #[v0] := by cases args; simp_all
  obtain ⟨rfl, rfl⟩ := trodVars_none hV
  obtain ⟨a0, rfl, rfl, rfl, w0⟩ := open_int Yba.underlying5 (hval 0 5 v0 rfl rfl) h0
  clear hA0 hval0
  simp only [List.append_nil] at hW'
  refine (walk a0 w0 W).mono fun e W' ⟨he, hg⟩ => ?_
  subst he
  exact ⟨_, rfl, post_of_same (pa := []) (pv := []) hW' (fun _ _ _ => (trodAll_cons_mk (shut_bool Yba.underlying4 _) trodAll_mk0)) (fun sp _ => (trodAll_cons_mk (shut_int Yba.underlying5 w0) trodAll_mk0)) (fun _ _ => rfl) rfl
    (hg.frame _) hg.2.1 (ok_one (by kernel_rfl) rfl (okWide_bool_mk Yba.underlying4 _))⟩

theorem over : Rows.lawS2116CTableRow.holds Yba.pinned (OpenSpec.ofChange Rows.lawS2116CTableSpec) :=
  OpenClaim.holds_of_wide 3 Yba.f3 rfl rfl rfl rfl rfl rfl rfl ⟨rfl, rfl, rfl, rfl, rfl⟩ rfl rfl rfl rfl rfl (by kernel_rfl) Yba.func3 (by kernel_rfl)
    (of_decide_eq_true (by kernel_rfl)) (by unfold Func.isWrapper; first | (rw [if_pos (by decide +kernel)]; kernel_rfl) | (rw [if_neg (by decide +kernel)]; exact ⟨rfl, rfl⟩))
    (fun os started H enc _ => lifted os started H enc)

end Go.Proofs.Ybulkaquk.lawS2116CTable
namespace Go.Proofs.Ybulkaquk
/-- THE STATEMENT -/
theorem lawS2116CTable_proved : Rows.LawS2116CTableSaid := lawS2116CTable.over
end Go.Proofs.Ybulkaquk
