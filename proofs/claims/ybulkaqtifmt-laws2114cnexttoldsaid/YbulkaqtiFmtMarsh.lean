/-
  MarshalBinary AND WHAT IT CALLS, by contracts: the bytes themselves are left open (the law asks for the length and the first byte alone).
-/
import Derived.Test.YbulkaqtiFmtEndF
import Derived.Laws.BitsAllLaws
namespace Go.Proofs.YbulkaqtiFmt
open Go.RowKit
set_option linter.unusedVariables false

/-- bytes -/
def Byt (xs : List Value) : Prop := ∀ v ∈ xs, ∃ z, v = .int .u8 z
theorem Byt.nil : Byt [] := fun v h => by cases h
theorem Byt.cons {z : Int} {xs : List Value} (h : Byt xs) : Byt (.int .u8 z :: xs) := fun v hv => by
  rcases List.mem_cons.1 hv with rfl | hv
  · exact ⟨z, rfl⟩
  · exact h v hv
theorem Byt.append {xs ys : List Value} (h : Byt xs) (k : Byt ys) : Byt (xs ++ ys) := fun v hv => by
  rcases List.mem_append.1 hv with hv | hv
  · exact h v hv
  · exact k v hv

/-- below B all is kept, and above it whatever is no array of bytes -/
structure Keeps (B : Nat) (w w' : World) : Prop where
  below : Below B w w'
  size : w.heap.size ≤ w'.heap.size
  block : ∀ k, k < w.heap.size → (∀ c fr, w.heap[k]? ≠ some (.cells c 5 fr)) → w'.heap[k]? = w.heap[k]?
theorem Keeps.refl (B : Nat) (w : World) : Keeps B w w := ⟨Below.refl _ _, Nat.le_refl _, fun _ _ _ => rfl⟩
theorem Keeps.trans {B : Nat} {a b c : World} (h : Keeps B a b) (k : Keeps B b c) : Keeps B a c :=
  ⟨h.below.trans k.below, Nat.le_trans h.size k.size, fun n hn ht => (k.block n (Nat.lt_of_lt_of_le hn h.size) (by rw [h.block n hn ht]; exact ht)).trans (h.block n hn ht)⟩
theorem Keeps.alloc {B : Nat} {a w : World} (h : Keeps B a w) (o : Obj) (hB : B ≤ w.heap.size) : Keeps B a (w.alloc o) :=
  ⟨h.below.alloc hB o, by simp; have := h.size; omega, fun n hn ht => (Below.heap_alloc w o n (Nat.lt_of_lt_of_le hn h.size)).trans (h.block n hn ht)⟩
theorem Keeps.undrew {B : Nat} {a w : World} (h : Keeps B a.drew w) : Keeps B a w :=
  ⟨⟨h.below.os, h.below.tape, h.below.output, h.below.size, h.below.block⟩, h.size, h.block⟩
theorem own_ne {w : World} {B n h : Nat} {sv : Value} {xs : List Value} (hown : w.ownsRow B 5 1 sv n xs) (ht : ∀ c fr, w.heap[h]? ≠ some (.cells c 5 fr)) : some h ≠ sv.ownBlock := by
  obtain ⟨_, hc⟩ := hown
  rcases hc with ⟨rfl, _⟩ | ⟨g, cap, cur, rfl, hg, hh, _⟩
  · intro e; cases e
  · intro e; simp [Value.ownBlock] at e; subst e; exact ht _ _ hh
theorem Keeps.grown {B n : Nat} {w w' : World} {sv : Value} {xs : List Value} (hown : w.ownsRow B 5 1 sv n xs) (hB : B ≤ w.heap.size) (h : w.grownBy w' sv.ownBlock) : Keeps B w w' :=
  ⟨(Below.refl _ _).grown h hB (own_ge hown), h.size, fun k hk ht => h.block k hk (own_ne hown ht)⟩

theorem byt_one {xs : List Value} (h : Byt xs) : ∀ x ∈ xs, x.oneCell' = true := fun x hx => by obtain ⟨z, rfl⟩ := h x hx; rfl

set_option maxHeartbeats 1000000 in
set_option maxRecDepth 100000 in
theorem app16 (sv : Value) (n B : Nat) (xs : List Value) (v : Int) (w : World) (hown : w.ownsRow B 5 1 sv n xs) (hB : B ≤ w.heap.size) (hn : n ≤ 10000) (hv : 0 ≤ v ∧ v ≤ 65535) :
    Calls Ybaf.prog 40 #[.agg #[], sv, .int .u16 v] w fun e w' => ∃ sv' ys, e = .returned sv' ∧ ys.length = 2 ∧ Byt ys ∧ w'.ownsRow B 5 1 sv' (n + 2) (xs ++ ys) ∧ Keeps B w w' := by
  obtain ⟨i0, hi, hz0, hz1, hz2⟩ := info_parts info5
  have HO : Hid (w.ownsRow B 5 1 sv n xs) := hown
  clear hown
  go_enter Ybaf.func40, Ybaf.ntmps40
  go_wp2_with (at_builtin; refine wpList_append_own _ rfl (.tmp 7) (.tmp 13) 31 rfl B 5 i0 (.int .u8 0) 1 1 Ybaf.underlying31 hi hz0 hz1 hz2 rfl (by decide) _ _ _ rfl ((HO.out.alloc _).alloc _) ⟨w.heap.size + 1, 0, none⟩ 2 2 [.int .u8 (v / 256), .int .u8 (v % 256)] rfl rfl (news_arr _ #[.int .u8 (v / 256), .int .u8 (v % 256)] _ _ (by simp)) (byt_one Byt.nil.cons.cons) (small_max _ (by omega)) (by omega) (by simp; omega) ?_)
  intro v2 w2 hown2 hgrow2 _
  have HO2 : Hid (w2.ownsRow B 5 1 v2 (n + 2) (xs ++ [.int .u8 (v / 256), .int .u8 (v % 256)])) := hown2
  have HK : Hid (Keeps B w w2) := (((Keeps.refl B w).alloc _ hB).alloc _ (by simp; omega)).trans (Keeps.grown ((HO.out.alloc _).alloc _) (by simp; omega) hgrow2)
  clear hown2 hgrow2 HO
  go_wp2
  go_ret
  exact ⟨v2, _, rfl, rfl, Byt.nil.cons.cons, HO2.out, HK.out⟩

set_option maxHeartbeats 1000000 in
set_option maxRecDepth 100000 in
theorem app32 (sv : Value) (n B : Nat) (xs : List Value) (v : Int) (w : World) (hown : w.ownsRow B 5 1 sv n xs) (hB : B ≤ w.heap.size) (hn : n ≤ 10000) (hv : 0 ≤ v ∧ v ≤ 4294967295) :
    Calls Ybaf.prog 41 #[.agg #[], sv, .int .u32 v] w fun e w' => ∃ sv' ys, e = .returned sv' ∧ ys.length = 4 ∧ Byt ys ∧ w'.ownsRow B 5 1 sv' (n + 4) (xs ++ ys) ∧ Keeps B w w' := by
  obtain ⟨i0, hi, hz0, hz1, hz2⟩ := info_parts info5
  have HO : Hid (w.ownsRow B 5 1 sv n xs) := hown
  clear hown
  go_enter Ybaf.func41, Ybaf.ntmps41
  go_wp2_with (at_builtin; refine wpList_append_own _ rfl (.tmp 7) (.tmp 19) 31 rfl B 5 i0 (.int .u8 0) 1 1 Ybaf.underlying31 hi hz0 hz1 hz2 rfl (by decide) _ _ _ rfl ((HO.out.alloc _).alloc _) ⟨w.heap.size + 1, 0, none⟩ 4 4 [.int .u8 (v / 16777216), .int .u8 (v / 65536 % 256), .int .u8 (v / 256 % 256), .int .u8 (v % 256)] rfl rfl (news_arr _ #[.int .u8 (v / 16777216), .int .u8 (v / 65536 % 256), .int .u8 (v / 256 % 256), .int .u8 (v % 256)] _ _ (by simp)) (byt_one Byt.nil.cons.cons.cons.cons) (small_max _ (by omega)) (by omega) (by simp; omega) ?_)
  intro v2 w2 hown2 hgrow2 _
  have HO2 : Hid (w2.ownsRow B 5 1 v2 (n + 4) (xs ++ [.int .u8 (v / 16777216), .int .u8 (v / 65536 % 256), .int .u8 (v / 256 % 256), .int .u8 (v % 256)])) := hown2
  have HK : Hid (Keeps B w w2) := (((Keeps.refl B w).alloc _ hB).alloc _ (by simp; omega)).trans (Keeps.grown ((HO.out.alloc _).alloc _) (by simp; omega) hgrow2)
  clear hown2 hgrow2 HO
  go_wp2
  go_ret
  exact ⟨v2, _, rfl, rfl, Byt.nil.cons.cons.cons.cons, HO2.out, HK.out⟩

theorem or_u16 (a b : Int) (ha : 0 ≤ a ∧ a ≤ 65535) (hb : 0 ≤ b ∧ b ≤ 65535) : ∃ c : Int, bits .or .u16 a b = c ∧ (0 ≤ c ∧ c ≤ 65535) := by
  refine ⟨_, u16_or a b ha.1 (by omega) hb.1 (by omega), by omega, ?_⟩
  have : a.toNat ||| b.toNat < 2 ^ 16 := Nat.or_lt_two_pow (by omega) (by omega)
  omega
theorem heap_drewN (w : World) (n : Nat) : (w.drewN n).heap = w.heap := by
  induction n with
  | zero => rfl
  | succ n ih => exact ih
theorem own_drewN {w : World} {B e size n : Nat} {v : Value} {xs : List Value} (h : w.ownsRow B e size v n xs) (m : Nat) : (w.drewN m).ownsRow B e size v n xs := by
  unfold World.ownsRow at *; rw [heap_drewN]; exact h
theorem keeps_undrewN {B : Nat} {a w : World} {n : Nat} (h : Keeps B (a.drewN n) w) : Keeps B a w := by
  induction n with
  | zero => exact h
  | succ n ih => exact ih h.undrew
theorem cell_heap {w : World} {b : Nat} {A : Array Value} {t : TypeId} {fr : Nat × Nat} (h : w.heap[b]? = some (.cells A t fr)) (j : Nat) (v : Value) (hv : A[j]? = some v) : w.cell? ⟨b, j, none⟩ = some v := by
  simp [World.cell?, h, hv]

theorem fin10 {w w4 : World} {B n : Nat} {sv4 : Value} {xs ys1 ys3 ys4 : List Value} {a b : Int} (hl1 : ys1.length = 2) (hy1 : Byt ys1) (hl3 : ys3.length = 2) (hy3 : Byt ys3) (hl4 : ys4.length = 4) (hy4 : Byt ys4)
    (hown4 : w4.ownsRow B 5 1 sv4 (n + 2 + 2 + 2 + 4) (xs ++ (ys1 ++ [.int .u8 a, .int .u8 b]) ++ ys3 ++ ys4)) (hk : Keeps B w w4) :
    ∃ sv' ys, Ending.returned sv4 = .returned sv' ∧ ys.length = 10 ∧ Byt ys ∧ w4.ownsRow B 5 1 sv' (n + 10) (xs ++ ys) ∧ Keeps B w w4 :=
  ⟨sv4, ys1 ++ ([.int .u8 a, .int .u8 b] ++ (ys3 ++ ys4)), rfl, by simp [hl1, hl3, hl4], hy1.append ((Byt.nil.cons.cons).append (hy3.append hy4)), by simpa only [List.append_assoc] using hown4, hk⟩

set_option maxHeartbeats 4000000 in
set_option maxRecDepth 100000 in
/-- Header.appendTo: ten bytes more -/
theorem appendTo_any (h wb l : Bool) (D S Fn Nm Sy : Int) (sv : Value) (n B : Nat) (xs : List Value) (w : World) (hown : w.ownsRow B 5 1 sv n xs) (hB : B ≤ w.heap.size) (hn : n ≤ 1000)
    (hD : 0 ≤ D ∧ D ≤ 32767) (hS : 0 ≤ S ∧ S ≤ 127) (hFn : 0 ≤ Fn ∧ Fn ≤ 255) (hNm : 0 ≤ Nm ∧ Nm ≤ 32767) (hSy : 0 ≤ Sy ∧ Sy ≤ 4294967295) :
    Calls Ybaf.prog 39 #[.agg #[.bool h, .int .u16 D, .bool wb, .int .u8 S, .int .u8 Fn, .bool l, .int .u16 Nm, .int .u32 Sy], sv] w fun e w' => ∃ sv' ys, e = .returned sv' ∧ ys.length = 10 ∧ Byt ys ∧ w'.ownsRow B 5 1 sv' (n + 10) (xs ++ ys) ∧ Keeps B w w' := by
  obtain ⟨i0, hi, hz0, hz1, hz2⟩ := info_parts info5
  have HO : Hid (w.ownsRow B 5 1 sv n xs) := hown
  clear hown
  obtain ⟨D2, eD, bD⟩ : ∃ D2 : Int, bits .or .u16 D 32768 = D2 ∧ (0 ≤ D2 ∧ D2 ≤ 65535) := or_u16 D 32768 (by omega) (by omega)
  obtain ⟨N2, eN, bN⟩ : ∃ N2 : Int, bits .or .u16 Nm 32768 = N2 ∧ (0 ≤ N2 ∧ N2 ≤ 65535) := or_u16 Nm 32768 (by omega) (by omega)
  obtain ⟨S2, eS⟩ : ∃ S2 : Int, bits .or .u8 S 128 = S2 := ⟨_, rfl⟩
  have hD' : 0 ≤ D ∧ D ≤ 65535 := by omega
  have hN' : 0 ≤ Nm ∧ Nm ≤ 65535 := by omega
  have HH : Hid ((w.alloc (.cells #[.bool h, .int .u16 D, .bool wb, .int .u8 S, .int .u8 Fn, .bool l, .int .u16 Nm, .int .u32 Sy] 49)).heap[w.heap.size]? = some (.cells #[.bool h, .int .u16 D, .bool wb, .int .u8 S, .int .u8 Fn, .bool l, .int .u16 Nm, .int .u32 Sy] 49 (0, 0))) := heap_top _ _ _ rfl
  have HK0 : Hid (Keeps B w (w.alloc (.cells #[.bool h, .int .u16 D, .bool wb, .int .u8 S, .int .u8 Fn, .bool l, .int .u16 Nm, .int .u32 Sy] 49))) := (Keeps.refl B w).alloc _ hB
  have HO0 : Hid ((w.alloc (.cells #[.bool h, .int .u16 D, .bool wb, .int .u8 S, .int .u8 Fn, .bool l, .int .u16 Nm, .int .u32 Sy] 49)).ownsRow B 5 1 sv n xs) := HO.out.alloc _
  clear HO
  cases h <;> cases wb <;> cases l
  all_goals
    go_enter Ybaf.func39, Ybaf.ntmps39
    go_wp2_with fail
    go_quiet (fail)
    go_wp2_with fail
    refine (app16 sv n B xs _ _ (own_drewN HO0.out _) (by simp; omega) (by omega) (by assumption)).mono ?_
    rintro e w1 ⟨sv1, ys1, rfl, hl1, hy1, hown1, hk1⟩
    have hh1 := (hk1.block w.heap.size (by simp) (by rw [heap_drewN, HH.out]; intro c fr e; simp at e)).trans ((congrArg (·[w.heap.size]?) (heap_drewN _ _)).trans HH.out)
    have HK1 := HK0.out.trans (keeps_undrewN hk1)
    have c4 := cell_heap hh1 4 (.int .u8 Fn) rfl
    have c7 := cell_heap hh1 7 (.int .u32 Sy) rfl
    have hs1 : w.heap.size < w1.heap.size := lt_of_heap hh1
    have HO1 : Hid (w1.ownsRow B 5 1 sv1 (n + 2) (xs ++ ys1)) := hown1
    have HH1 : Hid (w1.heap[w.heap.size]? = some _) := hh1
    have HKK1 : Hid (Keeps B w w1) := HK1
    clear hk1 hown1 hh1 HK1 HK0 HO0 HH
    go_wp2_with (at_builtin; refine wpList_append_own _ rfl (.tmp 30) (.tmp 34) 31 rfl B 5 i0 (.int .u8 0) 1 1 Ybaf.underlying31 hi hz0 hz1 hz2 rfl (by decide) _ _ _ rfl (HO1.out.alloc _) ⟨w1.heap.size, 0, none⟩ 2 2 _ rfl rfl (news_arr _ _ _ _ rfl) (byt_one Byt.nil.cons.cons) (small_max _ (by omega)) (by omega) (by simp; omega) ?_)
    intro v2 w2 hown2 hgrow2 _
    have HO2 : Hid (w2.ownsRow B 5 1 v2 (n + 2 + 2) _) := hown2
    have HK2 := ((Keeps.refl B w1).alloc _ (by omega)).trans (Keeps.grown (HO1.out.alloc _) (by simp; omega) hgrow2)
    have hh2 := (HK2.block w.heap.size hs1 (by rw [HH1.out]; intro c fr e; simp at e)).trans HH1.out
    have HH2 : Hid (w2.heap[w.heap.size]? = some _) := hh2
    have k7 := cell_heap hh2 7 (.int .u32 Sy) rfl
    have hs2 : w.heap.size < w2.heap.size := lt_of_heap hh2
    have HKK2 : Hid (Keeps B w w2) := HKK1.out.trans HK2
    clear hown2 hgrow2 HK2 hh2 HO1 HH1 HKK1 c4 c7
    go_wp2_with fail
    refine (app16 v2 (n + 2 + 2) B _ _ _ HO2.out (by omega) (by omega) (by assumption)).mono ?_
    rintro e w3 ⟨sv3, ys3, rfl, hl3, hy3, hown3, hk3⟩
    have hh3 := (hk3.block w.heap.size hs2 (by rw [HH2.out]; intro c fr e; simp at e)).trans HH2.out
    have j7 := cell_heap hh3 7 (.int .u32 Sy) rfl
    have hs3 : w.heap.size < w3.heap.size := lt_of_heap hh3
    have HO3 : Hid (w3.ownsRow B 5 1 sv3 (n + 2 + 2 + 2) _) := hown3
    have HKK3 : Hid (Keeps B w w3) := HKK2.out.trans hk3
    clear hown3 hk3 hh3 HH2 HKK2 k7
    go_wp2_with fail
    refine (app32 sv3 (n + 2 + 2 + 2) B _ _ _ HO3.out (by omega) (by omega) (by omega)).mono ?_
    rintro e w4 ⟨sv4, ys4, rfl, hl4, hy4, hown4, hk4⟩
    go_wp2_with fail
    go_ret
    exact fin10 hl1 hy1 hl3 hy3 hl4 hy4 hown4 (HKK3.out.trans hk4)
end Go.Proofs.YbulkaqtiFmt
