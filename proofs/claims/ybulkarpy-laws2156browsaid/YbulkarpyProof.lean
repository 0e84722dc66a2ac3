/-
  THE ROW OF LawS2156BRow, after the guide's Derived/Test/FilterProofs.lean, turned to this program.
-/
import Derived.Test.YbulkarpyLaw
import Derived.ProofKit
import Derived.OpenShut
import Derived.Deep.Grids
namespace Go.Proofs.Ybulkarpy
open Go.ChangeShapes Go.WideShapes Go.ChangeAt Go.RowKit
open Go.Deep

theorem own : ownKnob Yba.prog.godebug = none := by kernel_rfl
theorem laidOut : laidOutB Yba.prog = true := by kernel_rfl
theorem cells2 : Yba.prog.cellsOf 2 = 1 := by kernel_rfl
theorem cells4 : Yba.prog.cellsOf 4 = 1 := by kernel_rfl

set_option maxHeartbeats 400000 in
theorem law_big (ad bd : Option Addr) (len cap ll lc : Nat) (a2 a3 : Int) (w : World) (h : 1024 < ll ∨ 1024 < len) :
    Calls Yba.prog 3 #[.slice ad len cap, .slice bd ll lc, .int .u8 a2, .int .u32 a3] w fun e w' => e = .returned (.bool true) ∧ Below w.heap.size w w' := by
  by_cases h1 : 1024 < ll
  · go_enter Yba.func3, Yba.ntmps3
    go_wp2_with fail
    go_ret
    exact ⟨rfl, Below.refl _ _⟩
  · have h2 : 1024 < len := by omega
    go_enter Yba.func3, Yba.ntmps3
    go_wp2_with fail
    go_ret
    exact ⟨rfl, Below.refl _ _⟩

/-- what the values' slice is good for: zzs2156bval over it, in every later world -/
theorem vals_open {H : Type} {enc : TypeId × Value → H} {W : World} {a0 : Option Addr} {len cap : Nat} {d0 : DataW H} {p0 : List MemPlace} (hlt : ∀ x ∈ p0, x.block < W.heap.size) (hlen : len ≤ 1024)
    (h : DataW.Trod enc Yba.prog W 0 (fun _ => true) true 22 (.slice a0 len cap) d0 p0) :
    ∃ f : Nat → Int, ∀ wx, Below W.heap.size W wx → ∀ k : Nat, k ≤ 10000 → Calls Yba.prog 4 #[.slice a0 len cap, .int .i64 k] wx fun e w' => e = .returned (.int .i64 (f k)) ∧ w' = wx := by
  by_cases h0 : len = 0
  · subst h0
    exact ⟨fun k => k, fun wx _ k _ => val_empty a0 cap k wx⟩
  · obtain ⟨fuel, hf⟩ := h
    rcases open_ints Yba.underlying22 Yba.underlying2 cells2 hf with ⟨hcs, _⟩ | ⟨a, len', cap', zs, hcs, _, hl, hm, hz, hx, hcell, hwz⟩
    · simp [Value.cells] at hcs
      exact absurd hcs.2.1 h0
    · simp [Value.cells] at hcs
      obtain ⟨rfl, rfl, rfl⟩ := hcs
      simp only [Prod.mk.injEq] at hx
      obtain ⟨rfl, rfl⟩ := hx
      simp only [if_true] at hz
      obtain ⟨b, off, spot⟩ := a
      have hspot : spot = none := by simpa [Addr.add] using World.cell?_spot (hcell 0 (by omega))
      subst hspot
      have hbW : b < W.heap.size := hlt (.cell b off) (MemPlace.mem_row.2 ⟨0, by omega, by simp⟩)
      refine ⟨fun k => wrap64 (k * 7 + zs.getD (k % len) 0), fun wx hb k hk => ?_⟩
      have hlt' : k % len < len := Nat.mod_lt _ (by omega)
      refine val_some b off len cap k _ wx (by omega) hlen hk ?_
      rw [hb.cell (p := ⟨b, off + k % len, none⟩) hbW, ← add_plain]
      exact hcell _ (by omega)

theorem live_open {H : Type} {enc : TypeId × Value → H} {W : World} {a0 : Option Addr} {len cap : Nat} {d0 : DataW H} {p0 : List MemPlace} (hlt : ∀ x ∈ p0, x.block < W.heap.size)
    (h : DataW.Trod enc Yba.prog W 0 (fun _ => true) true 23 (.slice a0 len cap) d0 p0) :
    ∃ g : Nat → Bool, ∀ wx, Below W.heap.size W wx → ∀ k : Nat, k < len → ∃ b o, a0 = some ⟨b, o, none⟩ ∧ wx.cell? ⟨b, o + k, none⟩ = some (.bool (g k)) := by
  by_cases h0 : len = 0
  · subst h0
    exact ⟨fun _ => false, fun wx _ k hk => absurd hk (by omega)⟩
  · obtain ⟨fuel, hf⟩ := h
    rcases open_bools Yba.underlying23 Yba.underlying4 cells4 hf with ⟨hcs, _⟩ | ⟨a, len', cap', B, hcs, _, hl, hm, hx, hcell⟩
    · simp [Value.cells] at hcs
      exact absurd hcs.2.1 h0
    · simp [Value.cells] at hcs
      obtain ⟨rfl, rfl, rfl⟩ := hcs
      simp only [Prod.mk.injEq] at hx
      obtain ⟨rfl, rfl⟩ := hx
      obtain ⟨b, off, spot⟩ := a
      have hspot : spot = none := by simpa [Addr.add] using World.cell?_spot (hcell 0 (by omega))
      subst hspot
      have hbW : b < W.heap.size := hlt (.cell b off) (MemPlace.mem_row.2 ⟨0, by omega, by simp⟩)
      refine ⟨B, fun wx hb k hk => ⟨b, off, rfl, ?_⟩⟩
      rw [hb.cell (p := ⟨b, off + k, none⟩) hbW, ← add_plain]
      exact hcell _ (by omega)

set_option maxRecDepth 100000 in
theorem lifted (os : Os) (started : os.Started) (H : Type) (enc : TypeId × Value → H) :
    ReturnsInHanded {} Yba.checked os 3 .any (Rows.lawS2156BRowSpec.pre6 enc Yba.prog Yba.f3 Rows.lawS2156BRowRow.domain false) (Rows.lawS2156BRowSpec.post enc Yba.prog Yba.f3 false true false false) := by
  refine returnsInHanded_of_change (C := Yba.checked) own started (by kernel_rfl) Yba.func3
    (ChangeSpec.witness6 (enc := enc) (C := Yba.checked) false ⟨#[], #[.slice none 0 0, .slice none 0 0, .int .u8 0, .int .u32 0], []⟩ 8 (by kernel_rfl) (by kernel_rfl) (by kernel_rfl) (by kernel_rfl)) ?_
  intro W base args ds gs before hval0 hW hcnd _
  have hval : ∀ (j : Nat) t v, Yba.f3.params[j]? = some t → args[j]? = some v → Value.okWide Yba.prog W .any base t v := hval0
  have hW' := hW
  obtain ⟨p, q, hA0, hV, rfl, hfz, hnd⟩ := hW
  have hA : DataW.TrodAll enc Yba.prog W 0 (fun _ => true) true Yba.f3.params.toList args.toList ds p := hA0
  rw [Yba.params3] at hA hval
  obtain ⟨v0, vs0, d0, ds0, p0, q0, hargs, rfl, rfl, h0, r0⟩ := trodAll_cons hA
  obtain ⟨v1, vs1, d1, ds1, p1, q1, rfl, rfl, rfl, h1, r1⟩ := trodAll_cons r0
  obtain ⟨v2, vs2, d2, ds2, p2, q2, rfl, rfl, rfl, h2, r2⟩ := trodAll_cons r1
  obtain ⟨v3, vs3, d3, ds3, p3, q3, rfl, rfl, rfl, h3, r3⟩ := trodAll_cons r2
  obtain ⟨rfl, rfl, rfl⟩ := trodAll_nil r3
  obtain rfl : args = #[v0, v1, v2, v3] := by cases args; simp_all
  obtain ⟨rfl, rfl⟩ := trodVars_none hV
  obtain ⟨a2, rfl, rfl, rfl, w2⟩ := open_int Yba.underlying5 (hval 2 5 v2 rfl rfl) h2
  obtain ⟨a3, rfl, rfl, rfl, w3⟩ := open_int Yba.underlying24 (hval 3 24 v3 rfl rfl) h3
  obtain ⟨ad, len, cap, rfl⟩ := okWide_slice Yba.underlying22 (hval 0 22 v0 rfl rfl)
  obtain ⟨bd, ll, lc, rfl⟩ := okWide_slice Yba.underlying23 (hval 1 23 v1 rfl rfl)
  clear hA0 hval0
  simp only [List.append_nil] at hW'
  have hlt0 : ∀ x ∈ p0, x.block < W.heap.size := fun x hx => by simpa using hW'.lt x (by simp [hx])
  have hlt1 : ∀ x ∈ p1, x.block < W.heap.size := fun x hx => by simpa using hW'.lt x (by simp [hx])
  have key : Calls Yba.prog 3 #[.slice ad len cap, .slice bd ll lc, .int .u8 a2, .int .u32 a3] W fun e w' => e = .returned (.bool true) ∧ Below W.heap.size W w' := by
    by_cases hbig : 1024 < ll ∨ 1024 < len
    · exact law_big ad bd len cap ll lc a2 a3 W hbig
    · obtain ⟨f, hf⟩ := vals_open hlt0 (by omega) h0
      obtain ⟨g, hg⟩ := live_open hlt1 h1
      have b2 := bounds_u8 w2
      have b3 := bounds_u32 w3
      obtain ⟨sel, rfl⟩ : ∃ sel : Nat, a3 = sel := ⟨a3.toNat, by omega⟩
      exact law_walk ad bd len cap ll lc f g a2 b2.1 b2.2 sel (by omega) W (by omega) (by omega) hf hg
  refine key.mono fun e W' ⟨he, hg⟩ => ?_
  subst he
  refine ⟨_, rfl, _, _, _, [], p0 ++ (p1 ++ []), [], hW', ?_, ?_, ?_, hg.frame _, fun h => by cases h⟩
  · exact trodAll_cons_mk (shut_bool Yba.underlying4 _) trodAll_mk0
  · exact trodAll_cons_mk (Below.trod laidOut (by kernel_rfl) (of_decide_eq_true (by kernel_rfl)) h0 hg hlt0) (trodAll_cons_mk (Below.trod laidOut (by kernel_rfl) (of_decide_eq_true (by kernel_rfl)) h1 hg hlt1) (trodAll_cons_mk (shut_int Yba.underlying5 w2) (trodAll_cons_mk (shut_int Yba.underlying24 w3) trodAll_mk0)))
  · rfl

theorem over : Rows.lawS2156BRowRow.holds Yba.pinned (OpenSpec.ofChange Rows.lawS2156BRowSpec) :=
  OpenClaim.holds_of_wide 3 Yba.f3 rfl rfl rfl rfl rfl rfl rfl ⟨rfl, rfl, rfl, rfl, rfl⟩ rfl rfl rfl rfl rfl (by kernel_rfl) Yba.func3 (by kernel_rfl)
    (of_decide_eq_true (by kernel_rfl)) (by unfold Func.isWrapper; first | (rw [if_pos (by decide +kernel)]; kernel_rfl) | (rw [if_neg (by decide +kernel)]; exact ⟨rfl, rfl⟩))
    (fun os started H enc _ => lifted os started H enc)

/-- THE STATEMENT -/
theorem lawS2156BRow_proved : Rows.LawS2156BRowSaid := over
end Go.Proofs.Ybulkarpy
