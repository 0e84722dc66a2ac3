/-
  THE PROJECT's FUNCTIONS ON THE ROAD OF LawS2156BRow, EACH BY A CONTRACT: zzs2156bval, place, row, liveRow.
-/
import Derived.Test.YbulkarpyLocks
import Derived.Conc.RwLone
import Derived.WalkKit
import Derived.Deep.QuietTactic
import Derived.BigQuiet
import Derived.WalkSpells
import Derived.WalkLawsBesides
import Derived.Laws.BitsAllLaws
namespace Go.Proofs.Ybulkarpy
open Go.RowKit Go.RwLone

theorem ret_sl {ad : Option Addr} {a b c d : Nat} (h : a = c) (h' : b = d) : Ending.returned (.slice ad a b) = .returned (.slice ad c d) := by rw [h, h']
theorem ret_i64 {a b : Int} (h : a = b) : Ending.returned (.int .i64 a) = .returned (.int .i64 b) := by rw [h]

set_option maxHeartbeats 400000 in
theorem val_empty (ad : Option Addr) (cap k : Nat) (w : World) :
    Calls Yba.prog 4 #[.slice ad 0 cap, .int .i64 k] w fun e w' => e = .returned (.int .i64 k) ∧ w' = w := by
  go_enter Yba.func4, Yba.ntmps4
  go_wp2
  go_ret
  exact ⟨rfl, rfl⟩

set_option maxHeartbeats 400000 in
theorem val_some (b off len cap k : Nat) (z : Int) (w : World) (h0 : 0 < len) (hl : len ≤ 1024) (hk : k ≤ 10000) (hc : w.cell? ⟨b, off + k % len, none⟩ = some (.int .i64 z)) :
    Calls Yba.prog 4 #[.slice (some ⟨b, off, none⟩) len cap, .int .i64 k] w fun e w' => e = .returned (.int .i64 (wrap64 (k * 7 + z))) ∧ w' = w := by
  have hlt : k % len < len := Nat.mod_lt _ h0
  have hm : (k : Int) % (len : Int) = ((k % len : Nat) : Int) := (Int.natCast_emod _ _).symm
  have n0 : ((len : Int) == 0) = false := by rw [beq_eq_false_iff_ne]; omega
  generalize k % len = r at *
  go_enter Yba.func4, Yba.ntmps4
  go_wp2
  go_ret
  exact ⟨rfl, rfl⟩

theorem and_low (n : Nat) (h : n < 65536) : bits .and .i64 (n : Int) 65535 = (n : Int) := by
  have h1 : (BitVec.ofInt 64 (n : Int)).toNat = n := by
    rw [BitVec.ofInt_natCast, BitVec.toNat_ofNat]; exact Nat.mod_eq_of_lt (by omega)
  have h2 : (BitVec.ofInt 64 (65535 : Int)).toNat = 65535 := by decide
  show IntKind.i64.wrap ((BitVec.ofInt 64 (n : Int) &&& BitVec.ofInt 64 (65535 : Int)).toNat : Int) = _
  rw [BitVec.toNat_and, h1, h2, show n &&& 65535 = n % 65536 from Nat.and_two_pow_sub_one_eq_mod n 16, Nat.mod_eq_of_lt h, IntKind.wrap_i64]
  omega

/-- the table's fields that are read: the columns' slice, the one chunk -/
structure TabAt (w : World) (tb cb kb vb lb wd N n : Nat) (cap : Nat) (ca : Option Addr) : Prop where
  cols : w.cell? ⟨tb, 2, none⟩ = some (.slice ca wd cap)
  chunks : w.cell? ⟨tb, 12, none⟩ = some (.slice (some ⟨cb, 0, none⟩) 1 1)
  chunk : w.cell? ⟨cb, 0, none⟩ = some (.pointer (some ⟨kb, 0, none⟩))
  vals : w.cell? ⟨kb, 0, none⟩ = some (.slice (some ⟨vb, 0, none⟩) N N)
  live : w.cell? ⟨kb, 1, none⟩ = some (.slice (some ⟨lb, 0, none⟩) n n)

section
variable {tb cb kb vb lb wd N n cap : Nat} {ca : Option Addr}
set_option maxHeartbeats 400000 in
theorem place_any (w : World) (id : Nat) (hid : id < 65536) (h : TabAt w tb cb kb vb lb wd N n cap ca) :
    Calls Yba.prog 8 #[.pointer (some ⟨tb, 0, none⟩), .int .i64 id] w fun e w' => e = .returned (.tuple #[.pointer (some ⟨kb, 0, none⟩), .int .i64 id]) ∧ w' = w := by
  obtain ⟨h1, h2, h3, h4, h5⟩ := h
  have ha := and_low id hid
  have hs : (id : Int) / 65536 = 0 := by omega
  go_enter Yba.func8, Yba.ntmps8
  go_wp2
  go_ret2
  exact ⟨rfl, rfl⟩

set_option maxHeartbeats 400000 in
theorem row_any (w : World) (id : Nat) (hid : id < 65536) (h : TabAt w tb cb kb vb lb wd N n cap ca) (hwd : wd ≤ 4) (hN : N = n * wd) (hn : id < n) (hn2 : n ≤ 1025) :
    Calls Yba.prog 9 #[.pointer (some ⟨tb, 0, none⟩), .int .i64 id] w fun e w' => e = .returned (.slice (some ⟨vb, id * wd, none⟩) wd wd) ∧ w' = w := by
  have HT : Hid (TabAt w tb cb kb vb lb wd N n cap ca) := h
  obtain ⟨h1, h2, h3, h4, h5⟩ := h
  have m1 : (id : Int) * (wd : Int) = ((id * wd : Nat) : Int) := (Int.natCast_mul _ _).symm
  have m2 : ((id : Int) + 1) * (wd : Int) = ((id * wd + wd : Nat) : Int) := by
    rw [Int.natCast_add, Int.natCast_mul, Int.add_mul, Int.one_mul]
  have b1 : id * wd + wd ≤ N := by
    rw [hN, ← Nat.succ_mul]; exact Nat.mul_le_mul_right _ hn
  have b2 : N ≤ 4100 := by rw [hN]; exact Nat.mul_le_mul hn2 hwd
  have b3 : wd = 0 → id * wd = 0 := fun e => by rw [e]; rfl
  clear hN
  generalize id * wd = x at *
  rcases Nat.eq_zero_or_pos wd with h0 | h0
  · have hx0 := b3 h0
    subst h0
    subst hx0
    clear b3 m1 m2
    go_enter Yba.func9, Yba.ntmps9
    go_wp2_with fail
    refine (place_any _ id hid HT.out).mono ?_
    rintro e w' ⟨rfl, rfl⟩
    go_wp2_with fail
    go_ret
    exact ⟨rfl, rfl⟩
  · clear b3
    go_enter Yba.func9, Yba.ntmps9
    go_wp2_with fail
    refine (place_any _ id hid HT.out).mono ?_
    rintro e w' ⟨rfl, rfl⟩
    go_wp2_with fail
    go_ret
    exact ⟨ret_sl (Nat.add_sub_cancel_left x wd) (Nat.add_sub_cancel_left x wd), rfl⟩

theorem TabAt.drewN {w : World} (h : TabAt w tb cb kb vb lb wd N n cap ca) (m : Nat) : TabAt (w.drewN m) tb cb kb vb lb wd N n cap ca := by
  obtain ⟨h1, h2, h3, h4, h5⟩ := h
  exact ⟨by simpa using h1, by simpa using h2, by simpa using h3, by simpa using h4, by simpa using h5⟩
/-- a store into the lock's count turns none of these cells -/
theorem TabAt.count {w : World} (h : TabAt w tb cb kb vb lb wd N n cap ca) (v : Value) (_h1 : cb ≠ tb) (_h2 : kb ≠ tb) : TabAt (w.setCell ⟨tb, 10, none⟩ v) tb cb kb vb lb wd N n cap ca := by
  obtain ⟨a1, a2, a3, a4, a5⟩ := h
  refine ⟨?_, ?_, ?_, ?_, ?_⟩
  · rw [World.cell?_setCell_other _ ⟨tb, 10, none⟩ ⟨tb, 2, none⟩ _ (by simp)]; exact a1
  · rw [World.cell?_setCell_other _ ⟨tb, 10, none⟩ ⟨tb, 12, none⟩ _ (by simp)]; exact a2
  · rw [World.cell?_setCell_other _ ⟨tb, 10, none⟩ ⟨cb, 0, none⟩ _ (by simp)]; exact a3
  · rw [World.cell?_setCell_other _ ⟨tb, 10, none⟩ ⟨kb, 0, none⟩ _ (by simp)]; exact a4
  · rw [World.cell?_setCell_other _ ⟨tb, 10, none⟩ ⟨kb, 1, none⟩ _ (by simp)]; exact a5

set_option maxHeartbeats 1600000 in
/-- liveRow, the lock free: the row's slice and the live flag; the count goes up and down again. -/
theorem liveRow_any (w : World) (id : Nat) (lv : Bool) (x0 x2 x3 : Value) (hid : id < 65536) (h : TabAt w tb cb kb vb lb wd N n cap ca) (hwd : wd ≤ 4) (hN : N = n * wd) (hn : id < n) (hn2 : n ≤ 1025)
    (hcb : cb ≠ tb) (hkb : kb ≠ tb) (hlb : lb ≠ tb) (hl : w.cell? ⟨lb, id, none⟩ = some (.bool lv))
    (c0 : w.cell? ⟨tb, 6, none⟩ = some x0) (c2 : w.cell? ⟨tb, 8, none⟩ = some x2) (c3 : w.cell? ⟨tb, 9, none⟩ = some x3) (hc : w.cell? ⟨tb, 10, none⟩ = some (.int .i32 0)) (hz : w.frozen? ⟨tb, 10, none⟩ = false) :
    Calls Yba.prog 5 #[.pointer (some ⟨tb, 0, none⟩), .int .i64 id] w fun e w' => e = .returned (.tuple #[.slice (some ⟨vb, id * wd, none⟩) wd wd, .bool lv]) ∧
      ∃ m, w' = ((w.setCell ⟨tb, 10, none⟩ (.int .i32 1)).drewN m).setCell ⟨tb, 10, none⟩ (.int .i32 0) := by
  have HT1 : Hid (TabAt (w.setCell ⟨tb, 10, none⟩ (.int .i32 1)) tb cb kb vb lb wd N n cap ca) := h.count _ hcb hkb
  have hl1 : (w.setCell ⟨tb, 10, none⟩ (.int .i32 1)).cell? ⟨lb, id, none⟩ = some (.bool lv) := (World.cell?_setCell_other _ ⟨tb, 10, none⟩ ⟨lb, id, none⟩ _ (by intro e; exact hlb (Addr.mk.inj e).1.symm)).trans hl
  have HN : Hid (N = n * wd) := hN
  have hw1 : wrap32 (0 + 1) = 1 := by unfold wrap32; omega
  have hw0 : wrap32 (1 + -1) = 0 := by unfold wrap32; omega
  have HR : Hid (Calls Yba.prog 6 #[.pointer (some ⟨tb, 6, none⟩)] w fun e w' => e = .returned (.tuple #[]) ∧ w' = w.setCell ⟨tb, 10, none⟩ (.int .i32 1)) := by
    have := rlock_open rwRLib tb 6 0 x0 x3 w c0 c3 hc hz (by rw [hw1]; decide)
    rw [hw1] at this
    exact this
  have HU : Hid (∀ (m : Nat) (u : FrameMode), CallsD Yba.prog 7 #[.pointer (some ⟨tb, 6, none⟩)] u ((w.setCell ⟨tb, 10, none⟩ (.int .i32 1)).drewN m) fun e u' w' => u' = u ∧ (e = .returned (.tuple #[]) ∧ w' = ((w.setCell ⟨tb, 10, none⟩ (.int .i32 1)).drewN m).setCell ⟨tb, 10, none⟩ (.int .i32 0))) := by
    intro m u
    have := runlock_deferred rwRLib tb 6 1 x0 x2 u ((w.setCell ⟨tb, 10, none⟩ (.int .i32 1)).drewN m)
      (by simpa using (World.cell?_setCell_other w ⟨tb, 10, none⟩ ⟨tb, 6, none⟩ _ (by simp)).trans c0)
      (by simpa using (World.cell?_setCell_other w ⟨tb, 10, none⟩ ⟨tb, 8, none⟩ _ (by simp)).trans c2)
      (by simpa using World.cell?_setCell_same w ⟨tb, 10, none⟩ (.int .i32 1) hc) (by simp [hz]) (by rw [hw0]; decide)
    rw [hw0] at this
    exact this
  clear hw1 hw0 c0 c2 c3 hc hz hN h hl
  go_enter_defers Yba.func5, Yba.ntmps5
  go_wp2_with fail
  refine HR.out.mono ?_
  rintro e w' ⟨rfl, rfl⟩
  go_wp2_with fail
  refine (place_any _ id hid HT1.out).mono ?_
  rintro e w' ⟨rfl, rfl⟩
  obtain ⟨t1, t2, t3, t4, t5⟩ := HT1.out
  generalize hw1 : w.setCell ⟨tb, 10, none⟩ (.int .i32 1) = w1 at *
  go_wp2_with fail
  go_quiet ((go_at_call 9; exact Calls.quiet_of_same (row_any _ id hid (HT1.out.drewN _) hwd HN.out hn hn2)))
  go_wp2_with fail
  refine leaves_cons (f := 7) (args := #[.pointer (some ⟨tb, 6, none⟩)]) (by simp) (by simp [go_sem]) ?_
  refine (HU.out nq .returning).mono ?_
  rintro e u' w'' ⟨rfl, rfl, rfl⟩
  exact ⟨_, results_tmp2 rfl _ _ _, rfl, nq, by rw [hw1]⟩
end
end Go.Proofs.Ybulkarpy
