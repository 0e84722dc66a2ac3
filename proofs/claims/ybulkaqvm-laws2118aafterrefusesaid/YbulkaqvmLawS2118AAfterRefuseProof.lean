/-
  PROOF OF 'Rows.LawS2118AAfterRefuseSaid'. The row's step is the guide's shell for this function; the walk is this seat's.
-/
import Derived.Test.YbulkaqvmRows
import Derived.WalkKit
import Derived.ProofKit
import Derived.OpenShut
import Derived.LaidEqlPtr
import Derived.Lib.Builder
import Derived.ShutString
namespace Go.Proofs.Ybulkaqvm.lawS2118AAfterRefuse
open Go.ChangeShapes Go.WideShapes Go.ChangeAt Go.RowKit
open Go.ChangeMaps (open_string shut_string)
set_option linter.unusedVariables false

theorem own : ownKnob Yba.prog.godebug = none := by kernel_rfl

theorem info34 : Yba.prog.info? 34 = some ((Yba.prog.info? 34).getD default) := by kernel_rfl
theorem size34 : ((Yba.prog.info? 34).getD default).size ≠ 0 := by
  have h : (((Yba.prog.info? 34).getD default).size == 0) = false := by kernel_rfl
  exact beq_eq_false_iff_ne.1 h

/-- two pointers that differ, into blocks of cells: '!=' says true -/
theorem run_neq_ptr_other {P : Program} (w : World) {tp te : TypeId} {j : TypeInfo} {a b : Addr} {ca cb : Array Value} {ta tb : TypeId} (hp : P.underlying tp = some (.pointer te)) (hte : P.info? te = some j) (hsz : j.size ≠ 0)
    (hne : a ≠ b) (ha : w.heap[a.block]? = some (.cells ca ta (0, 0))) (hb : w.heap[b.block]? = some (.cells cb tb (0, 0))) :
    (binOp .neq tp (.pointer (some a)) (.pointer (some b))).run P w = .ok (.bool true) w := by
  have h : ∀ d : Nat, (Op.equalIn (d + 1) tp (.pointer (some a)) (.pointer (some b))).run P w = .ok false w := fun d => by
    simp [Op.equalIn, run_underlying hp, sizeOf, typeInfo, hte, hsz, run_sameAddr_other w hne ha hb]
  simp only [binOp]
  simp [Op.equal, Op.maxDepth, h 9999]

theorem heap_top (w : World) (o : Obj) (n : Nat) (h : n = w.heap.size) : (w.alloc o).heap[n]? = some o := by
  subst h; show (w.heap.push o)[w.heap.size]? = some o; simp

theorem neq_new (w : World) (c1 c2 c3 : Array Value) (t1 t2 t3 : TypeId) :
    (binOp .neq 23 (.pointer (some ⟨w.heap.size + 1 + 1, 0, none⟩)) (.pointer (some ⟨w.heap.size + 1, 0, none⟩))).run Yba.prog (((w.alloc (.cells c1 t1)).alloc (.cells c2 t2)).alloc (.cells c3 t3))
      = .ok (.bool true) (((w.alloc (.cells c1 t1)).alloc (.cells c2 t2)).alloc (.cells c3 t3)) :=
  run_neq_ptr_other _ (ca := c3) (cb := c2) (ta := t3) (tb := t2) Yba.underlying23 info34 size34 (by simp) (heap_top _ _ _ (by simp)) ((Below.heap_alloc _ _ _ (by simp)).trans (heap_top _ _ _ (by simp)))

set_option maxHeartbeats 1000000 in
theorem walk (a0 : Bool) (a1 : ByteArray) (a2 : ByteArray) (w1 : a1.size ≤ maxLen) (w2 : a2.size ≤ maxLen) (w : World) :
    Calls Yba.prog 4 #[.bool a0, .string a1, .string a2] w fun e w' => e = .returned (.bool true) ∧ Grown w w' := by
  have hn := fun (wx : World) (a : Addr) => Lib.run_neq_ptr_same (P := Yba.prog) wx a Yba.underlying23 info34
  have he := fun (wx : World) (a : Addr) => run_eql_ptr_same (P := Yba.prog) wx a Yba.underlying23 info34
  have ho := neq_new w
  cases a0 <;>
  · go_enter Yba.func4, Yba.ntmps4
    go_wp2
    go_ret
    exact ⟨rfl, by repeat (first | exact Grown.refl _ | apply Grown.drew | apply Grown.alloc)⟩

/-! ### THE ROW's STEP: WRITTEN OUT: LEAVE IT -/
set_option maxRecDepth 100000 in
theorem lifted (os : Os) (started : os.Started) (H : Type) (enc : TypeId × Value → H) :
    ReturnsInHanded {} Yba.checked os 4 .any (Rows.lawS2118AAfterRefuseSpec.pre6 enc Yba.prog Yba.f4 Rows.lawS2118AAfterRefuseRow.domain false) (Rows.lawS2118AAfterRefuseSpec.post enc Yba.prog Yba.f4 false true false false) := by
  refine returnsInHanded_of_change (C := Yba.checked) own started (by kernel_rfl) Yba.func4
    (ChangeSpec.witness6 (enc := enc) (C := Yba.checked) false ⟨#[], #[.bool false, .string ByteArray.empty, .string ByteArray.empty], []⟩ 8 (by kernel_rfl) (by kernel_rfl) (by kernel_rfl) (by kernel_rfl)) ?_
  intro W base args ds gs before hval0 hW hcnd _
  have hval : ∀ (j : Nat) t v, Yba.f4.params[j]? = some t → args[j]? = some v → Value.okWide Yba.prog W .any base t v := hval0
  have hW' := hW
  obtain ⟨p, q, hA0, hV, rfl, hfz, hnd⟩ := hW
  have hA : DataW.TrodAll enc Yba.prog W 0 (fun _ => true) true Yba.f4.params.toList args.toList ds p := hA0
  rw [Yba.params4] at hA hval
  obtain ⟨v0, vs0, d0, ds0, p0, q0, hargs, rfl, rfl, h0, r0⟩ := trodAll_cons hA
  obtain ⟨v1, vs1, d1, ds1, p1, q1, rfl, rfl, rfl, h1, r1⟩ := trodAll_cons r0
  obtain ⟨v2, vs2, d2, ds2, p2, q2, rfl, rfl, rfl, h2, r2⟩ := trodAll_cons r1
  obtain ⟨rfl, rfl, rfl⟩ := trodAll_nil r2
  obtain rfl : args = #[v0, v1, v2] := by cases args; simp_all
  obtain ⟨rfl, rfl⟩ := trodVars_none hV
  obtain ⟨a0, rfl, rfl, rfl⟩ := open_bool Yba.underlying4 (hval 0 4 v0 rfl rfl) h0
  obtain ⟨a1, rfl, rfl, rfl, w1⟩ := open_string Yba.underlying9 (hval 1 9 v1 rfl rfl) h1
  obtain ⟨a2, rfl, rfl, rfl, w2⟩ := open_string Yba.underlying9 (hval 2 9 v2 rfl rfl) h2
  clear hA0 hval0
  simp only [List.append_nil] at hW'
  refine (walk a0 a1 a2 w1 w2 W).mono fun e W' ⟨he, hg⟩ => ?_
  subst he
  exact ⟨_, rfl, post_of_same (pa := []) (pv := []) hW' (fun _ _ _ => (trodAll_cons_mk (shut_bool Yba.underlying4 _) trodAll_mk0)) (fun sp _ => (trodAll_cons_mk (shut_bool Yba.underlying4 _) (trodAll_cons_mk (shut_string Yba.underlying9 w1) (trodAll_cons_mk (shut_string Yba.underlying9 w2) trodAll_mk0)))) (fun _ _ => rfl) rfl
    (hg.frame _) hg.2.1 (ok_one (by kernel_rfl) rfl (okWide_bool_mk Yba.underlying4 _))⟩

theorem over : Rows.lawS2118AAfterRefuseRow.holds Yba.pinned (OpenSpec.ofChange Rows.lawS2118AAfterRefuseSpec) :=
  OpenClaim.holds_of_wide 4 Yba.f4 rfl rfl rfl rfl rfl rfl rfl ⟨rfl, rfl, rfl, rfl, rfl⟩ rfl rfl rfl rfl rfl (by kernel_rfl) Yba.func4 (by kernel_rfl)
    (of_decide_eq_true (by kernel_rfl)) (by unfold Func.isWrapper; first | (rw [if_pos (by decide +kernel)]; kernel_rfl) | (rw [if_neg (by decide +kernel)]; exact ⟨rfl, rfl⟩))
    (fun os started H enc _ => lifted os started H enc)

end Go.Proofs.Ybulkaqvm.lawS2118AAfterRefuse
namespace Go.Proofs.Ybulkaqvm
/-- THE STATEMENT -/
theorem lawS2118AAfterRefuse_proved : Rows.LawS2118AAfterRefuseSaid := lawS2118AAfterRefuse.over
end Go.Proofs.Ybulkaqvm
