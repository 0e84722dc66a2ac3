/-
  THE ROW OF LawS2114CNext, AND ITS TOLD AND TIED CARD. fmt is not come to on any road of this law: its told text is never asked.
-/
import Derived.Test.YbulkaqtiFmtNext
import Derived.Test.YbulkaqtiFmtEndProof
namespace Go.Proofs.YbulkaqtiFmt
open Go.ChangeShapes Go.WideShapes Go.ChangeAt Go.RowKit
open Go.Extern.Stop Go.Stop Go.Extern
open Go.Deep

set_option maxHeartbeats 1000000 in
set_option maxRecDepth 100000 in
theorem next_big (r0 ret : Int) (u : Bool) (d : Dat) (ad : Option Addr) (len cap : Nat) (w : World) (h : 1024 < len) :
    Calls Ybaf.prog 6 #[.int .i64 r0, .int .i64 ret, .bool u, .agg #[.bool d.h, .bool d.wb, .bool d.l, .int .u16 d.dev, .int .u8 d.st, .int .u8 d.fn, .int .u16 d.num, .int .u32 d.sys, .slice d.ad d.len d.cap], .slice ad len cap] w fun e w' => e = .returned (.bool true) ∧ Below w.heap.size w w' := by
  go_enter Ybaf.func6, Ybaf.ntmps6
  go_wp2_with fail
  go_ret
  exact ⟨rfl, (Below.refl _ _).alloc (Nat.le_refl _) _⟩

theorem next_all (r0 ret : Int) (u : Bool) (d : Dat) (ad : Option Addr) (len cap : Nat) (f : Nat → Dat) (w : World) (hfn : 0 ≤ d.fn ∧ d.fn ≤ 255) (hsy : 0 ≤ d.sys ∧ d.sys ≤ 4294967295) (hdl : d.len ≤ maxLen)
    (hdb : 0 < d.len → ∃ a, d.ad = some a ∧ ∀ j, j < d.len → w.cell? (a.add j) = some (.int .u8 (d.bs j)))
    (hq : ∀ k, k < len → ∃ b off, ad = some ⟨b, off, none⟩ ∧ DatAt w b (off + k * 9) (f k)) :
    Calls Ybaf.prog 6 #[.int .i64 r0, .int .i64 ret, .bool u, .agg #[.bool d.h, .bool d.wb, .bool d.l, .int .u16 d.dev, .int .u8 d.st, .int .u8 d.fn, .int .u16 d.num, .int .u32 d.sys, .slice d.ad d.len d.cap], .slice ad len cap] w fun e w' => e = .returned (.bool true) ∧ Below w.heap.size w w' := by
  by_cases hbig : 1024 < len
  · exact next_big r0 ret u d ad len cap w hbig
  · cases u
    · exact next_n r0 ret d ad len cap f w (by omega) hfn hsy hdl hdb hq
    · exact next_u r0 ret d ad len cap f w (by omega) hfn hsy hdl hdb hq

section
variable {H : Type} {enc : TypeId × Value → H} {w : World} {held : Bool}

theorem one_u8r {fuel : Nat} {cs : List Value} {x : DataW H × List MemPlace} (h : DataW.trod enc Ybaf.prog w 0 (fun _ => true) held fuel 5 cs = some x) : ∃ n, cs = [.int .u8 n] ∧ (0 ≤ n ∧ n ≤ 255) := by
  obtain ⟨b, hb, _, hw⟩ := DataW.trod_int Ybaf.underlying5 h
  refine ⟨b, hb, ?_⟩
  simp only [Lit.wf, Bool.and_eq_true, decide_eq_true_eq] at hw
  exact hw
theorem one_u32r {fuel : Nat} {cs : List Value} {x : DataW H × List MemPlace} (h : DataW.trod enc Ybaf.prog w 0 (fun _ => true) held fuel 47 cs = some x) : ∃ n, cs = [.int .u32 n] ∧ (0 ≤ n ∧ n ≤ 4294967295) := by
  obtain ⟨b, hb, _, hw⟩ := DataW.trod_int Ybaf.underlying47 h
  refine ⟨b, hb, ?_⟩
  simp only [Lit.wf, Bool.and_eq_true, decide_eq_true_eq] at hw
  exact hw

set_option maxRecDepth 100000 in
/-- nine cells that read as the law's plain block -/
theorem dat_open {fuel : Nat} {cs : List Value} {x : DataW H × List MemPlace} (hl : cs.length = 9) (ht : DataW.trod enc Ybaf.prog w 0 (fun _ => true) held fuel 54 cs = some x) :
    ∃ d : Dat, cs = [.bool d.h, .bool d.wb, .bool d.l, .int .u16 d.dev, .int .u8 d.st, .int .u8 d.fn, .int .u16 d.num, .int .u32 d.sys, .slice d.ad d.len d.cap] ∧ (0 ≤ d.fn ∧ d.fn ≤ 255) ∧ (0 ≤ d.sys ∧ d.sys ≤ 4294967295) ∧ d.len ≤ maxLen ∧
      (0 < d.len → ∃ a, d.ad = some a ∧ ∀ j, j < d.len → w.cell? (a.add j) = some (.int .u8 (d.bs j))) := by
  obtain ⟨xs, n, _, _, hlen, hxs, hf⟩ := DataW.trod_struct Ybaf.underlying54 ht
  clear ht
  match cs, hl, xs, hxs with
  | [v0, v1, v2, v3, v4, v5, v6, v7, v8], _, [x0, x1, x2, x3, x4, x5, x6, x7, x8], _ =>
    have f0 : DataW.trod enc Ybaf.prog w 0 (fun _ => true) held n 4 (([v0, v1, v2, v3, v4, v5, v6, v7, v8].drop 0).take (Ybaf.prog.cellsOf 4)) = some x0 := hf 0 _ rfl
    have f1 : DataW.trod enc Ybaf.prog w 0 (fun _ => true) held n 4 (([v0, v1, v2, v3, v4, v5, v6, v7, v8].drop 1).take (Ybaf.prog.cellsOf 4)) = some x1 := hf 1 _ rfl
    have f2 : DataW.trod enc Ybaf.prog w 0 (fun _ => true) held n 4 (([v0, v1, v2, v3, v4, v5, v6, v7, v8].drop 2).take (Ybaf.prog.cellsOf 4)) = some x2 := hf 2 _ rfl
    have f3 : DataW.trod enc Ybaf.prog w 0 (fun _ => true) held n 46 (([v0, v1, v2, v3, v4, v5, v6, v7, v8].drop 3).take (Ybaf.prog.cellsOf 46)) = some x3 := hf 3 _ rfl
    have f4 : DataW.trod enc Ybaf.prog w 0 (fun _ => true) held n 5 (([v0, v1, v2, v3, v4, v5, v6, v7, v8].drop 4).take (Ybaf.prog.cellsOf 5)) = some x4 := hf 4 _ rfl
    have f5 : DataW.trod enc Ybaf.prog w 0 (fun _ => true) held n 5 (([v0, v1, v2, v3, v4, v5, v6, v7, v8].drop 5).take (Ybaf.prog.cellsOf 5)) = some x5 := hf 5 _ rfl
    have f6 : DataW.trod enc Ybaf.prog w 0 (fun _ => true) held n 46 (([v0, v1, v2, v3, v4, v5, v6, v7, v8].drop 6).take (Ybaf.prog.cellsOf 46)) = some x6 := hf 6 _ rfl
    have f7 : DataW.trod enc Ybaf.prog w 0 (fun _ => true) held n 47 (([v0, v1, v2, v3, v4, v5, v6, v7, v8].drop 7).take (Ybaf.prog.cellsOf 47)) = some x7 := hf 7 _ rfl
    have f8 : DataW.trod enc Ybaf.prog w 0 (fun _ => true) held n 31 (([v0, v1, v2, v3, v4, v5, v6, v7, v8].drop 8).take (Ybaf.prog.cellsOf 31)) = some x8 := hf 8 _ rfl
    rw [cells4] at f0
    rw [cells4] at f1
    rw [cells4] at f2
    rw [cells46] at f3
    rw [cells5] at f4
    rw [cells5] at f5
    rw [cells46] at f6
    rw [cells47] at f7
    rw [cells31] at f8
    obtain ⟨h, e0⟩ := one_bool (cs := [v0]) f0
    obtain ⟨wb, e1⟩ := one_bool (cs := [v1]) f1
    obtain ⟨l, e2⟩ := one_bool (cs := [v2]) f2
    obtain ⟨dev, e3⟩ := one_u16 (cs := [v3]) f3
    obtain ⟨st, e4⟩ := one_u8 (cs := [v4]) f4
    obtain ⟨fn, e5, hfn⟩ := one_u8r (cs := [v5]) f5
    obtain ⟨num, e6⟩ := one_u16 (cs := [v6]) f6
    obtain ⟨sys, e7, hsy⟩ := one_u32r (cs := [v7]) f7
    obtain ⟨ad, len, cap, bs, e8, hl8, hb8⟩ := one_bytes (cs := [v8]) f8
    simp only [List.cons.injEq, and_true] at e0 e1 e2 e3 e4 e5 e6 e7 e8
    subst e0 e1 e2 e3 e4 e5 e6 e7 e8
    exact ⟨⟨h, wb, l, dev, st, fn, num, sys, ad, len, cap, bs⟩, rfl, hfn, hsy, hl8, hb8⟩

set_option maxRecDepth 100000 in
/-- the head, a struct by value -/
theorem head_open {v : Value} {r : Reach} {base : Nat} {d0 : DataW H} {p0 : List MemPlace} (hv : Value.okWide Ybaf.prog w r base 54 v) (h : DataW.Trod enc Ybaf.prog w 0 (fun _ => true) held 54 v d0 p0) :
    ∃ d : Dat, v = .agg #[.bool d.h, .bool d.wb, .bool d.l, .int .u16 d.dev, .int .u8 d.st, .int .u8 d.fn, .int .u16 d.num, .int .u32 d.sys, .slice d.ad d.len d.cap] ∧ (0 ≤ d.fn ∧ d.fn ≤ 255) ∧ (0 ≤ d.sys ∧ d.sys ≤ 4294967295) ∧ d.len ≤ maxLen ∧
      (0 < d.len → ∃ a, d.ad = some a ∧ ∀ j, j < d.len → w.cell? (a.add j) = some (.int .u8 (d.bs j))) := by
  obtain ⟨cs, rfl, hs⟩ := okWide_struct Ybaf.underlying54 hv
  rw [cells54] at hs
  obtain ⟨fuel, hf⟩ := h
  obtain ⟨d, e, hd⟩ := dat_open (cs := cs.toList) (by simpa using hs) hf
  refine ⟨d, ?_, hd⟩
  congr 1
  exact Array.toList_inj.1 e

/-- the slice's blocks, as records -/
theorem rest_open {a0 : Option Addr} {len cap : Nat} {d0 : DataW H} {p0 : List MemPlace} (h : DataW.Trod enc Ybaf.prog w 0 (fun _ => true) held 44 (.slice a0 len cap) d0 p0) :
    ∃ f : Nat → Dat, ∀ k, k < len → ∃ b off, a0 = some ⟨b, off, none⟩ ∧ DatAt w b (off + k * 9) (f k) := by
  have hq := (qs_open h).2 w (Below.refl _ _)
  have hd : ∀ k : Nat, ∃ d : Dat, k < len → ∃ b off, a0 = some ⟨b, off, none⟩ ∧ DatAt w b (off + k * 9) d := by
    intro k
    by_cases hk : k < len
    · obtain ⟨b, off, e, h, wb, l, dev, st, fn, num, sys, ad', len', cap', bs, hb⟩ := hq k hk
      exact ⟨⟨h, wb, l, dev, st, fn, num, sys, ad', len', cap', bs⟩, fun _ => ⟨b, off, e, hb⟩⟩
    · exact ⟨default, fun h => absurd h hk⟩
  exact ⟨fun k => Classical.choose (hd k), fun k => Classical.choose_spec (hd k)⟩
end

theorem stopsN : Ybaf.pinned.checked.prog.stops = Rows.lawS2114CNextRow.stops := by kernel_rfl
/-- the listed variable's name, as the row lists it -/
def errNameN : String := (Rows.lawS2114CNextRow.laid.headD ("", .nil)).1
theorem gErrN : Ybaf.prog.globalNamed errNameN = some 1 := by kernel_rfl
theorem door_metN (os : Os) (args : Array Value) : laidMetH Ybaf.prog Rows.lawS2114CNextRow.laid ((World.doorLaid Ybaf.prog 28 os).forCall (fun _ _ => 0) ⟨#[], args, []⟩).memory :=
  laidMetH_of_parts3 (fuel := 8) (laidMet_of_run' 8 (by kernel_rfl) (by kernel_rfl)) (by kernel_rfl) (by kernel_rfl)

set_option maxRecDepth 100000 in
theorem next_lifted (os : Os) (started : os.Started) (H : Type) (enc : TypeId × Value → H) :
    ReturnsInTold none {} Ybaf.checked os 6 .any Input.okWide ((OpenSpec.ofChange Rows.lawS2114CNextSpec).preRow enc Ybaf.prog Ybaf.f6 [] false Rows.lawS2114CNextRow.laid) (fun F => ((OpenSpec.ofChange Rows.lawS2114CNextSpec).at F).post enc Ybaf.prog Ybaf.f6 false true false false) (aloneAtReturn Ybaf.prog) nothingAlways := by
  refine returnsInTold_of_row (C := Ybaf.checked) (s := OpenSpec.ofChange Rows.lawS2114CNextSpec) (by kernel_rfl) own started (by kernel_rfl) Ybaf.func6
    (OpenSpec.witness_stopped_at (enc := enc) (C := Ybaf.checked) false (World.doorLaid Ybaf.prog 28 os) #[.int .i64 0, .int .i64 0, .bool false, .agg #[.bool false, .bool false, .bool false, .int .u16 0, .int .u8 0, .int .u8 0, .int .u16 0, .int .u32 0, .slice none 0 0], .slice none 0 0] rfl (by kernel_rfl) (by kernel_rfl) (by kernel_rfl)
      (OpenSpec.preRow_of_B rfl 8 (by kernel_rfl) (by kernel_rfl) (door_metN os _))) ?_
  intro F W base args ds gs before _ hF hval0 hW _ _ _ hL _
  have hval : ∀ (j : Nat) t v, Ybaf.f6.params[j]? = some t → args[j]? = some v → Value.okWide Ybaf.prog W .any base t v := hval0
  have hW' := hW
  obtain ⟨p, q, hA0, hV0, rfl, hfz, hnd⟩ := hW
  have hA : DataW.TrodAll enc Ybaf.prog W 0 (fun _ => true) true Ybaf.f6.params.toList args.toList ds p := hA0
  have hV : DataW.TrodVars enc Ybaf.prog W (fun _ => true) [errNameN] gs q := hV0
  rw [Ybaf.params6] at hA hval
  obtain ⟨v0, vs0, d0, ds0, p0, q0, hargs, rfl, rfl, h0, r0⟩ := trodAll_cons hA
  obtain ⟨v1, vs1, d1, ds1, p1, q1, rfl, rfl, rfl, h1, r1⟩ := trodAll_cons r0
  obtain ⟨v2, vs2, d2, ds2, p2, q2, rfl, rfl, rfl, h2, r2⟩ := trodAll_cons r1
  obtain ⟨v3, vs3, d3, ds3, p3, q3, rfl, rfl, rfl, h3, r3⟩ := trodAll_cons r2
  obtain ⟨v4, vs4, d4, ds4, p4, q4, rfl, rfl, rfl, h4, r4⟩ := trodAll_cons r3
  obtain ⟨rfl, rfl, rfl⟩ := trodAll_nil r4
  obtain rfl : args = #[v0, v1, v2, v3, v4] := by cases args; simp_all
  obtain ⟨a0, rfl, rfl, rfl, w0⟩ := open_int Ybaf.underlying3 (hval 0 3 v0 rfl rfl) h0
  obtain ⟨a1, rfl, rfl, rfl, w1⟩ := open_int Ybaf.underlying3 (hval 1 3 v1 rfl rfl) h1
  obtain ⟨b2, rfl, rfl, rfl⟩ := open_bool Ybaf.underlying4 (hval 2 4 v2 rfl rfl) h2
  obtain ⟨d, rfl, hfn, hsy, hdl, hdb⟩ := head_open (hval 3 54 v3 rfl rfl) h3
  obtain ⟨ad, len, cap, rfl⟩ := okWide_slice Ybaf.underlying44 (hval 4 44 v4 rfl rfl)
  obtain ⟨f, hq⟩ := rest_open h4
  obtain ⟨g, t, cs, fuel, dv, pv, rfl, hg, hgt, hvar, htr, rfl⟩ := trodVars_one hV
  obtain rfl := Option.some.inj (gErrN.symm.trans hg)
  obtain rfl := Option.some.inj (gErrType.symm.trans hgt)
  obtain ⟨x, rfl, ix, rfl, rfl, hcell⟩ := token_of gErrN Ybaf.underlying88 hvar htr
  have hg1 : 1 < W.heap.size := World.block_lt_of_cell? _ _ hcell
  clear hA0 hval0
  have hW0 := hW'
  simp only [List.append_nil, List.nil_append] at hW'
  have hlt3 : ∀ y ∈ p3, y.block < W.heap.size := fun y hy => by simpa using hW'.lt y (by simp [hy])
  have hlt4 : ∀ y ∈ p4, y.block < W.heap.size := fun y hy => by simpa using hW'.lt y (by simp [hy])
  refine (next_all a0 a1 b2 d ad len cap f W hfn hsy hdl hdb hq).mono fun e W' ⟨he, hb⟩ => ?_
  subst he
  refine ⟨_, rfl, _, _, _, [], [] ++ ([] ++ ([] ++ (p3 ++ (p4 ++ [])))), [.cell 1 0], hW0, ?_, ?_, ?_, hb.frame _, fun h => by cases h⟩
  · exact trodAll_cons_mk (shut_bool Ybaf.underlying4 _) trodAll_mk0
  · exact trodAll_cons_mk (shut_int Ybaf.underlying3 w0) (trodAll_cons_mk (shut_int Ybaf.underlying3 w1) (trodAll_cons_mk (shut_bool Ybaf.underlying4 _) (trodAll_cons_mk (Below.trod laidOut (by kernel_rfl) (of_decide_eq_true (by kernel_rfl)) h3 hb hlt3) (trodAll_cons_mk (Below.trod laidOut (by kernel_rfl) (of_decide_eq_true (by kernel_rfl)) h4 hb hlt4) trodAll_mk0))))
  · exact vars_read1 enc gErrN gErrType Ybaf.underlying88 (var_below hb gErrN hg1 hvar) ix _

/-- THE STATEMENT: THE TOLD AND TIED CARD -/
theorem lawS2114CNext_card : Rows.LawS2114CNextToldSaid :=
  Claim7.holds_of_told_tied_any_at .later 6 Ybaf.f6 "fmt.errorf" [] [] Rows.lawS2114CNextCard.stood.harness false false [.sentinel] true (by kernel_rfl) rfl rfl rfl laidOutP (by kernel_rfl) rfl ⟨rfl, rfl, rfl, rfl, rfl, rfl, rfl⟩ rfl rfl (by kernel_rfl) (by kernel_rfl) Ybaf.func6 (by kernel_rfl)
    (of_decide_eq_true (by kernel_rfl)) (of_decide_eq_true (by kernel_rfl)) stopsN.symm rfl stopKnobs.symm (by kernel_rfl)
    (by kernel_rfl) (by kernel_rfl) (by kernel_rfl) (by kernel_rfl) (by kernel_rfl) (by kernel_rfl) (by kernel_rfl) (by kernel_rfl) (by kernel_rfl) rfl (by kernel_rfl) rfl rfl
    rfl rfl
    rfl (by kernel_rfl) (by kernel_rfl) (by kernel_rfl) (by decide) (by kernel_rfl) lawS2114CNext_row_tie
    (OpenClaim.moreEntering_of (by kernel_rfl) (by kernel_rfl) (by kernel_rfl) (by kernel_rfl) (by kernel_rfl) (by kernel_rfl) (by kernel_rfl) (by kernel_rfl) (by kernel_rfl) (by kernel_rfl))
    ⟨_, WideRow.started_initial, quiet _⟩
    (fun os started _ H enc _ => next_lifted os started H enc)
end Go.Proofs.YbulkaqtiFmt
