/-
  THE LAW's ARGUMENTS OPENED: a slice of the law's plain blocks, each of nine cells.
-/
import Derived.Test.YbulkaqtiFmtEndF
import Derived.ProofKit
import Derived.OpenShut
import Derived.Deep.Grids
namespace Go.Proofs.YbulkaqtiFmt
open Go.ChangeShapes Go.WideShapes Go.ChangeAt Go.RowKit
open Go.Deep

theorem cells54 : Ybaf.prog.cellsOf 54 = 9 := by kernel_rfl
theorem cells4 : Ybaf.prog.cellsOf 4 = 1 := by kernel_rfl
theorem cells46 : Ybaf.prog.cellsOf 46 = 1 := by kernel_rfl
theorem cells5 : Ybaf.prog.cellsOf 5 = 1 := by kernel_rfl
theorem cells47 : Ybaf.prog.cellsOf 47 = 1 := by kernel_rfl
theorem cells31 : Ybaf.prog.cellsOf 31 = 1 := by kernel_rfl

section
variable {H : Type} {enc : TypeId × Value → H} {w : World} {held : Bool}

theorem later {wx : World} (hb : Below w.heap.size w wx) {a : Addr} {v : Value} (h : w.cell? a = some v) : wx.cell? a = some v :=
  (hb.cell (World.block_lt_of_cell? _ _ h)).trans h
theorem BlkAt.below {wx : World} {b o : Nat} {h wb l : Bool} {dev st fn num sys : Int} {ad : Option Addr} {len cap : Nat} {bs : Nat → Int} (k : BlkAt w b o h wb l dev st fn num sys ad len cap bs) (hb : Below w.heap.size w wx) : BlkAt wx b o h wb l dev st fn num sys ad len cap bs :=
  ⟨later hb k.c0, later hb k.c1, later hb k.c2, later hb k.c3, later hb k.c4, later hb k.c5, later hb k.c6, later hb k.c7, later hb k.c8, k.hlen,
   fun h0 => by obtain ⟨a, ha, hc⟩ := k.body h0; exact ⟨a, ha, fun j hj => later hb (hc j hj)⟩⟩

/-- one cell's list -/
theorem one_bool {fuel : Nat} {cs : List Value} {x : DataW H × List MemPlace} (h : DataW.trod enc Ybaf.prog w 0 (fun _ => true) held fuel 4 cs = some x) : ∃ b, cs = [.bool b] := by
  obtain ⟨b, hb, _⟩ := DataW.trod_bool Ybaf.underlying4 h; exact ⟨b, hb⟩
theorem one_u16 {fuel : Nat} {cs : List Value} {x : DataW H × List MemPlace} (h : DataW.trod enc Ybaf.prog w 0 (fun _ => true) held fuel 46 cs = some x) : ∃ n, cs = [.int .u16 n] := by
  obtain ⟨b, hb, _⟩ := DataW.trod_int Ybaf.underlying46 h; exact ⟨b, hb⟩
theorem one_u8 {fuel : Nat} {cs : List Value} {x : DataW H × List MemPlace} (h : DataW.trod enc Ybaf.prog w 0 (fun _ => true) held fuel 5 cs = some x) : ∃ n, cs = [.int .u8 n] := by
  obtain ⟨b, hb, _⟩ := DataW.trod_int Ybaf.underlying5 h; exact ⟨b, hb⟩
theorem one_u32 {fuel : Nat} {cs : List Value} {x : DataW H × List MemPlace} (h : DataW.trod enc Ybaf.prog w 0 (fun _ => true) held fuel 47 cs = some x) : ∃ n, cs = [.int .u32 n] := by
  obtain ⟨b, hb, _⟩ := DataW.trod_int Ybaf.underlying47 h; exact ⟨b, hb⟩
theorem one_bytes {fuel : Nat} {cs : List Value} {x : DataW H × List MemPlace} (h : DataW.trod enc Ybaf.prog w 0 (fun _ => true) held fuel 31 cs = some x) :
    ∃ ad len cap, ∃ bs : Nat → Int, cs = [.slice ad len cap] ∧ len ≤ maxLen ∧ (0 < len → ∃ a, ad = some a ∧ ∀ j, j < len → w.cell? (a.add j) = some (.int .u8 (bs j))) := by
  rcases open_ints Ybaf.underlying31 Ybaf.underlying5 cells5 h with ⟨rfl, _⟩ | ⟨a, len, cap, zs, rfl, _, hl, hm, hz, _, hcell, _⟩
  · exact ⟨none, 0, 0, fun _ => 0, rfl, small_max _ (by decide), fun h => absurd h (by decide)⟩
  · simp only [if_true] at hz
    exact ⟨some a, len, cap, fun j => zs.getD j 0, rfl, by omega, fun _ => ⟨a, rfl, fun j hj => hcell j (by omega)⟩⟩

set_option maxRecDepth 100000 in
theorem blk_open {fuel : Nat} {b o : Nat} {cs : List Value} {x : DataW H × List MemPlace} (hcs : w.cells? 0 ⟨b, o, none⟩ 9 = some cs) (ht : DataW.trod enc Ybaf.prog w 0 (fun _ => true) held fuel 54 cs = some x) :
    ∃ h wb l dev st fn num sys ad len cap bs, BlkAt w b o h wb l dev st fn num sys ad len cap bs := by
  obtain ⟨hb, hl, hat⟩ := World.cells?_some hcs
  obtain ⟨xs, n, _, _, hlen, hxs, hf⟩ := DataW.trod_struct Ybaf.underlying54 ht
  clear ht
  match cs, hl, xs, hxs with
  | [v0, v1, v2, v3, v4, v5, v6, v7, v8], _, [x0, x1, x2, x3, x4, x5, x6, x7, x8], _ =>
    have f0 : DataW.trod enc Ybaf.prog w 0 (fun _ => true) held n 4 (([v0, v1, v2, v3, v4, v5, v6, v7, v8].drop 0).take (Ybaf.prog.cellsOf 4)) = some x0 := hf 0 _ rfl
    have f1 : DataW.trod enc Ybaf.prog w 0 (fun _ => true) held n 4 (([v0, v1, v2, v3, v4, v5, v6, v7, v8].drop 1).take (Ybaf.prog.cellsOf 4)) = some x1 := hf 1 _ rfl
    have f2 : DataW.trod enc Ybaf.prog w 0 (fun _ => true) held n 4 (([v0, v1, v2, v3, v4, v5, v6, v7, v8].drop 2).take (Ybaf.prog.cellsOf 4)) = some x2 := hf 2 _ rfl
    have f3 : DataW.trod enc Ybaf.prog w 0 (fun _ => true) held n 46 (([v0, v1, v2, v3, v4, v5, v6, v7, v8].drop 3).take (Ybaf.prog.cellsOf 46)) = some x3 := hf 3 _ rfl
    have f4 : DataW.trod enc Ybaf.prog w 0 (fun _ => true) held n 5 (([v0, v1, v2, v3, v4, v5, v6, v7, v8].drop 4).take (Ybaf.prog.cellsOf 5)) = some x4 := hf 4 _ rfl
    have f5 : DataW.trod enc Ybaf.prog w 0 (fun _ => true) held n 5 (([v0, v1, v2, v3, v4, v5, v6, v7, v8].drop 5).take (Ybaf.prog.cellsOf 5)) = some x5 := hf 5 _ rfl
    have f6 : DataW.trod enc Ybaf.prog w 0 (fun _ => true) held n 46 (([v0, v1, v2, v3, v4, v5, v6, v7, v8].drop 6).take (Ybaf.prog.cellsOf 46)) = some x6 := hf 6 _ rfl
    have f7 : DataW.trod enc Ybaf.prog w 0 (fun _ => true) held n 47 (([v0, v1, v2, v3, v4, v5, v6, v7, v8].drop 7).take (Ybaf.prog.cellsOf 47)) = some x7 := hf 7 _ rfl
    have f8 : DataW.trod enc Ybaf.prog w 0 (fun _ => true) held n 31 (([v0, v1, v2, v3, v4, v5, v6, v7, v8].drop 8).take (Ybaf.prog.cellsOf 31)) = some x8 := hf 8 _ rfl
    rw [cells4] at f0
    rw [cells4] at f1
    rw [cells4] at f2
    rw [cells46] at f3
    rw [cells5] at f4
    rw [cells5] at f5
    rw [cells46] at f6
    rw [cells47] at f7
    rw [cells31] at f8
    obtain ⟨h, e0⟩ := one_bool (cs := [v0]) f0
    obtain ⟨wb, e1⟩ := one_bool (cs := [v1]) f1
    obtain ⟨l, e2⟩ := one_bool (cs := [v2]) f2
    obtain ⟨dev, e3⟩ := one_u16 (cs := [v3]) f3
    obtain ⟨st, e4⟩ := one_u8 (cs := [v4]) f4
    obtain ⟨fn, e5⟩ := one_u8 (cs := [v5]) f5
    obtain ⟨num, e6⟩ := one_u16 (cs := [v6]) f6
    obtain ⟨sys, e7⟩ := one_u32 (cs := [v7]) f7
    obtain ⟨ad, len, cap, bs, e8, hl8, hb8⟩ := one_bytes (cs := [v8]) f8
    simp only [List.cons.injEq, and_true] at e0 e1 e2 e3 e4 e5 e6 e7 e8
    subst e0 e1 e2 e3 e4 e5 e6 e7 e8
    have at' : ∀ i v, i < 9 → [Value.bool h, .bool wb, .bool l, .int .u16 dev, .int .u8 st, .int .u8 fn, .int .u16 num, .int .u32 sys, .slice ad len cap][i]? = some v → w.cell? ⟨b, o + i, none⟩ = some v := by
      intro i v hi hv
      rw [← add_plain, hat i hi]; exact hv
    exact ⟨h, wb, l, dev, st, fn, num, sys, ad, len, cap, bs, at' 0 _ (by decide) rfl, at' 1 _ (by decide) rfl, at' 2 _ (by decide) rfl, at' 3 _ (by decide) rfl, at' 4 _ (by decide) rfl, at' 5 _ (by decide) rfl, at' 6 _ (by decide) rfl, at' 7 _ (by decide) rfl, at' 8 _ (by decide) rfl, hl8, hb8⟩

set_option maxRecDepth 100000 in
theorem qs_open {a0 : Option Addr} {len cap : Nat} {d0 : DataW H} {p0 : List MemPlace} (h : DataW.Trod enc Ybaf.prog w 0 (fun _ => true) held 44 (.slice a0 len cap) d0 p0) :
    len ≤ maxLen ∧ ∀ wx, Below w.heap.size w wx → ∀ k : Nat, k < len → ∃ b off, a0 = some ⟨b, off, none⟩ ∧ ∃ h wb l dev st fn num sys ad' len' cap' bs, BlkAt wx b (off + k * 9) h wb l dev st fn num sys ad' len' cap' bs := by
  obtain ⟨fuel, hf⟩ := h
  rcases open_slice Ybaf.underlying44 hf with ⟨hcs, _⟩ | ⟨a, len', cap', m, n, D, Pl, hcs, _, hl, hm, hmm, hx, hel⟩
  · simp [Value.cells] at hcs
    obtain ⟨_, rfl, _⟩ := hcs
    exact ⟨small_max _ (by decide), fun wx _ k hk => absurd hk (by omega)⟩
  · simp [Value.cells] at hcs
    obtain ⟨rfl, rfl, rfl⟩ := hcs
    simp only [if_true] at hmm
    refine ⟨by omega, fun wx hb k hk => ?_⟩
    obtain ⟨cs', h1, h2⟩ := hel k (by omega)
    rw [cells54] at h1
    obtain ⟨b, off, spot⟩ := a
    have hspot : spot = none := by
      obtain ⟨cs', h1, _⟩ := hel 0 (by omega)
      rw [cells54] at h1
      obtain ⟨_, hlen, hat⟩ := World.cells?_some h1
      have h0 := hat 0 (by decide)
      obtain ⟨v, hv⟩ : ∃ v, cs'[0]? = some v := ⟨_, List.getElem?_eq_getElem (by omega)⟩
      rw [hv] at h0
      have := World.cell?_spot h0
      simpa [Addr.add] using this
    subst hspot
    rw [add_plain] at h1
    obtain ⟨h, wb, l, dev, st, fn, num, sys, ad, len', cap', bs, hblk⟩ := blk_open h1 h2
    exact ⟨b, off, rfl, h, wb, l, dev, st, fn, num, sys, ad, len', cap', bs, hblk.below hb⟩
end
end Go.Proofs.YbulkaqtiFmt
