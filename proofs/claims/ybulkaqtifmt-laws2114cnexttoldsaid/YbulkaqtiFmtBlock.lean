/-
  zzs2114cblock, BY A CONTRACT: a block out of the law's plain data.
-/
import Derived.Test.YbulkaqtiFmtRows
import Derived.WalkKit
import Derived.Deep.QuietTactic
import Derived.BigQuiet
import Derived.WalkSpells
import Derived.WalkLawsBesides
import Derived.Laws.MakeOwn
import Derived.Laws.OwnMore
import Derived.Laws.CopyOwn
namespace Go.Proofs.YbulkaqtiFmt
open Go.RowKit

/-- N cells that hold z -/
def fill (z : Value) (N : Nat) : List Value := List.replicate N z

theorem make_rule {t e : TypeId} {z : Value} {bytes : Nat} (ht : Ybaf.prog.underlying t = some (.slice e)) (hz : z.cells = #[z]) (hb : bytes ≤ 16)
    (hi : (Ybaf.prog.info? e).map (fun i => (i.zero, i.size, i.bytes)) = some (some z, 1, bytes)) (N : Nat) (hN : N ≤ 5000) (w : World) :
    (Instr.makeSlice t (.int .i64 N) (.int .i64 N)).run Ybaf.prog w = .ok (.slice (some ⟨w.heap.size, 0, none⟩) N N) (w.alloc (.cells (fill z N).toArray e)) := by
  obtain ⟨i, h0, h1, h2, h3⟩ := info_parts hi
  have hm : bytes * N ≤ 16 * 5000 := Nat.mul_le_mul hb hN
  have := run_make (P := Ybaf.prog) w t e i z ht h0 h1 .i64 .i64 N N (by omega) (by omega) (by rw [h3]; omega) (by omega)
  rw [h2, hz, Int.toNat_natCast, Nat.mul_one] at this
  have e : madeCells #[z] N = (fill z N).toArray := by
    apply Array.toList_inj.1
    rw [toList_madeCells_one]; rfl
  rw [e] at this
  exact this
theorem info5 : (Ybaf.prog.info? 5).map (fun i => (i.zero, i.size, i.bytes)) = some (some (.int .u8 0), 1, 1) := by kernel_rfl
theorem size5 : (Ybaf.prog.info? 5).map (·.size) = some 1 := by kernel_rfl

/-- a block's cells -/
def hd (h wb l : Bool) (dev st fn num sys : Int) (body : Value) : Array Value :=
  #[.bool h, .int .u16 (bits .and .u16 dev 32767), .bool wb, .int .u8 (bits .and .u8 st 127), .int .u8 fn, .bool l, .int .u16 (bits .and .u16 num 32767), .int .u32 sys, body]

theorem splice_full {z : Value} {n : Nat} {cs : List Value} (h : cs.length = n) : splice (fill z n) 0 cs = cs := by
  subst h; simp [splice, fill]
theorem bcell {B : Nat} {W w1 : World} (hb : Below B W w1) : (∀ b o, b < B → w1.cell? ⟨b, o, none⟩ = W.cell? ⟨b, o, none⟩) ∧ (∀ b o, b < B → w1.frozen? ⟨b, o, none⟩ = W.frozen? ⟨b, o, none⟩) :=
  ⟨fun b o h => hb.cell (p := ⟨b, o, none⟩) h, fun b o h => hb.frozen (p := ⟨b, o, none⟩) h⟩
theorem lt_of_heap {w : World} {g : Nat} {o : Obj} (h : w.heap[g]? = some o) : g < w.heap.size := by
  obtain ⟨h, _⟩ := Array.getElem?_eq_some_iff.1 h; exact h
theorem heap_top (w : World) (o : Obj) (n : Nat) (h : n = w.heap.size) : (w.alloc o).heap[n]? = some o := by
  subst h; show (w.heap.push o)[w.heap.size]? = some o; simp

/-- n bytes as cells -/
def byts (bs : Nat → Int) (n : Nat) : List Value := (List.range n).map fun j => .int .u8 (bs j)
theorem byts_len (bs : Nat → Int) (n : Nat) : (byts bs n).length = n := by simp [byts]
theorem byts_one (bs : Nat → Int) (n : Nat) : ∀ v ∈ byts bs n, v.oneCell' = true := by
  intro v hv; simp only [byts, List.mem_map] at hv; obtain ⟨j, _, rfl⟩ := hv; rfl
theorem byts_at (bs : Nat → Int) (n j : Nat) (h : j < n) : (byts bs n)[j]? = some (.int .u8 (bs j)) := by simp [byts, h]
theorem byts_src {w w0 : World} {a : Addr} {bs : Nat → Int} {n len : Nat} (hn : n ≤ len) (hb : Below w0.heap.size w0 w) (h : ∀ j, j < len → w0.cell? (a.add j) = some (.int .u8 (bs j))) :
    ∀ j v, (byts bs n)[j]? = some v → w.cell? (a.add j) = some v := by
  intro j v hj
  have hjn : j < n := by
    obtain ⟨h, _⟩ := List.getElem?_eq_some_iff.1 hj
    rwa [byts_len] at h
  rw [byts_at bs n j hjn] at hj
  rw [← Option.some.inj hj]
  have hc := h j (by omega)
  rw [hb.cell (World.block_lt_of_cell? _ _ hc)]
  exact hc

theorem nine_heap (w : World) (b g : Nat) (c0 c1 c2 c3 c4 c5 c6 c7 c8 : Value) (h : g ≠ b) :
    (((((((((w.setCell ⟨b, 0, none⟩ c0).setCell ⟨b, 1, none⟩ c1).setCell ⟨b, 2, none⟩ c2).setCell ⟨b, 3, none⟩ c3).setCell ⟨b, 4, none⟩ c4).setCell ⟨b, 5, none⟩ c5).setCell ⟨b, 6, none⟩ c6).setCell ⟨b, 7, none⟩ c7).setCell ⟨b, 8, none⟩ c8).heap[g]? = w.heap[g]? := by
  rw [Below.heap_setCell _ _ _ _ h, Below.heap_setCell _ _ _ _ h, Below.heap_setCell _ _ _ _ h, Below.heap_setCell _ _ _ _ h, Below.heap_setCell _ _ _ _ h, Below.heap_setCell _ _ _ _ h, Below.heap_setCell _ _ _ _ h, Below.heap_setCell _ _ _ _ h, Below.heap_setCell _ _ _ _ h]
theorem nine_below {B : Nat} {a : World} (w : World) (h : Below B a w) (b : Nat) (hb : B ≤ b) (c0 c1 c2 c3 c4 c5 c6 c7 c8 : Value) :
    Below B a (((((((((w.setCell ⟨b, 0, none⟩ c0).setCell ⟨b, 1, none⟩ c1).setCell ⟨b, 2, none⟩ c2).setCell ⟨b, 3, none⟩ c3).setCell ⟨b, 4, none⟩ c4).setCell ⟨b, 5, none⟩ c5).setCell ⟨b, 6, none⟩ c6).setCell ⟨b, 7, none⟩ c7).setCell ⟨b, 8, none⟩ c8) :=
  ((((((((h.setCell hb _).setCell hb _).setCell hb _).setCell hb _).setCell hb _).setCell hb _).setCell hb _).setCell hb _).setCell hb _

set_option maxHeartbeats 2000000 in
set_option maxRecDepth 100000 in
theorem block_any (h wb l : Bool) (dev st fn num sys : Int) (ad : Option Addr) (len cap : Nat) (bs : Nat → Int) (w : World) (hlen : len ≤ maxLen)
    (hbody : 0 < len → ∃ a, ad = some a ∧ ∀ j, j < len → w.cell? (a.add j) = some (.int .u8 (bs j))) :
    Calls Ybaf.prog 10 #[.agg #[.bool h, .bool wb, .bool l, .int .u16 dev, .int .u8 st, .int .u8 fn, .int .u16 num, .int .u32 sys, .slice ad len cap]] w fun e w' =>
      e = .returned (.agg (hd h wb l dev st fn num sys (.slice (some ⟨w.heap.size + 1 + 1, 0, none⟩) (min len 244) (min len 244)))) ∧ w.heap.size + 1 + 1 < w'.heap.size ∧
      w'.heap[w.heap.size + 1 + 1]? = some (.cells (byts bs (min len 244)).toArray 5 (0, 0)) ∧ Below w.heap.size w w' := by
  unfold maxLen at hlen
  have mk := fun n h wx => make_rule (z := .int .u8 0) Ybaf.underlying31 rfl (by decide) info5 n h wx
  by_cases hbig : 244 < len
  · have hmin : min len 244 = 244 := by omega
    rw [hmin]
    have mk1 : ∀ wx, (Instr.makeSlice 31 (.int .i64 244) (.int .i64 244)).run Ybaf.prog wx = .ok (.slice (some ⟨wx.heap.size, 0, none⟩) 244 244) (wx.alloc (.cells (fill (.int .u8 0) 244).toArray 5)) := mk 244 (by decide)
    clear mk hmin
    have HN : Hid ((byts bs 244).length = 244) := byts_len bs 244
    go_enter Ybaf.func10, Ybaf.ntmps10
    go_wp2_with (refine wpList_copy_splice rfl (.tmp 12) (.tmp 14) 31 31 rfl 5 Ybaf.underlying31 size5 _ _ _ _ _ _ rfl rfl (w.heap.size + 1 + 1) 0 (fill (.int .u8 0) 244) 5 ?hg (byts bs 244) ?hn ?hpos ?hfit ?h1 (w.heap.size + 1 + 1) _ (Below.refl _ _) (Nat.le_refl _) ?_)
    case hg => exact heap_top _ _ _ (by simp)
    case hn => rw [HN.out]; exact (Nat.min_eq_right (by omega)).symm
    case hpos =>
      intro h0
      obtain ⟨a, rfl, hc⟩ := hbody (by omega)
      exact ⟨a, rfl, byts_src (by omega) ((((Below.refl _ _).alloc (Nat.le_refl _) _).alloc (by simp) _).alloc (by simp; omega) _) hc⟩
    case hfit => rw [HN.out]; simp [fill]
    case h1 => exact byts_one bs 244
    intro w1 hH hb
    rw [splice_full HN.out] at hH
    have hsz := lt_of_heap hH.out
    obtain ⟨hc, hf⟩ := bcell hb
    clear mk1 hbody
    go_wp2
    refine bodyPost_ret (v := .agg (hd h wb l dev st fn num sys (.slice (some ⟨w.heap.size + 1 + 1, 0, none⟩) 244 244))) (by simp [results, Ybaf.results10, go_sem, hd, hc]) rfl ⟨rfl, by simpa using hsz, ?_, ?_⟩
    · rw [nine_heap w1 _ _ _ _ _ _ _ _ _ _ _ (by omega)]; exact hH.out
    · have hb0 : Below w.heap.size w w1 := ((((Below.refl _ _).alloc (Nat.le_refl _) _).alloc (by simp) _).alloc (by simp; omega) _).trans (hb.mono (by omega))
      exact nine_below _ hb0 _ (by omega) _ _ _ _ _ _ _ _ _
  · have hmin : min len 244 = len := by omega
    rw [hmin]
    have mk1 := mk len (by omega)
    clear mk hmin
    have HN : Hid ((byts bs len).length = len) := byts_len bs len
    go_enter Ybaf.func10, Ybaf.ntmps10
    go_wp2_with (refine wpList_copy_splice rfl (.tmp 12) (.tmp 14) 31 31 rfl 5 Ybaf.underlying31 size5 _ _ _ _ _ _ rfl rfl (w.heap.size + 1 + 1) 0 (fill (.int .u8 0) len) 5 ?hg (byts bs len) ?hn ?hpos ?hfit ?h1 (w.heap.size + 1 + 1) _ (Below.refl _ _) (Nat.le_refl _) ?_)
    case hg => exact heap_top _ _ _ (by simp)
    case hn => rw [HN.out]; simp
    case hpos =>
      intro h0
      obtain ⟨a, rfl, hc⟩ := hbody (by rw [HN.out] at h0; exact h0)
      exact ⟨a, rfl, byts_src (Nat.le_refl _) ((((Below.refl _ _).alloc (Nat.le_refl _) _).alloc (by simp) _).alloc (by simp; omega) _) hc⟩
    case hfit => rw [HN.out]; simp [fill]
    case h1 => exact byts_one bs len
    intro w1 hH hb
    rw [splice_full HN.out] at hH
    have hsz := lt_of_heap hH.out
    obtain ⟨hc, hf⟩ := bcell hb
    clear mk1 hbody
    go_wp2
    refine bodyPost_ret (v := .agg (hd h wb l dev st fn num sys (.slice (some ⟨w.heap.size + 1 + 1, 0, none⟩) len len))) (by simp [results, Ybaf.results10, go_sem, hd, hc]) rfl ⟨rfl, by simpa using hsz, ?_, ?_⟩
    · rw [nine_heap w1 _ _ _ _ _ _ _ _ _ _ _ (by omega)]; exact hH.out
    · have hb0 : Below w.heap.size w w1 := ((((Below.refl _ _).alloc (Nat.le_refl _) _).alloc (by simp) _).alloc (by simp; omega) _).trans (hb.mono (by omega))
      exact nine_below _ hb0 _ (by omega) _ _ _ _ _ _ _ _ _
end Go.Proofs.YbulkaqtiFmt
