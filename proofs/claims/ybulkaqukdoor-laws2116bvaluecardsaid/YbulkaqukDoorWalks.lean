/-
  THE PROJECT's FUNCTIONS ON THE ROAD OF THE TWO LAWS, EACH BY A CONTRACT: signBit, bias, lowest, decompose.
-/
import Derived.Test.YbulkaqukDoorRows
import Derived.Test.YbulkaqukDoorNum
import Derived.WalkKit
import Derived.Deep.QuietTactic
import Derived.BigQuiet
import Derived.WalkSpells
import Derived.WalkLawsBesides
namespace Go.Proofs.YbulkaqukDoor
open Go.RowKit Num

theorem ret_u64 {a b : Int} (h : a = b) : Ending.returned (.int .u64 a) = .returned (.int .u64 b) := by rw [h]
theorem ret_i64 {a b : Int} (h : a = b) : Ending.returned (.int .i64 a) = .returned (.int .i64 b) := by rw [h]

/-- the format's two numbers lie behind the pointer -/
def At (w : World) (b o eb fb : Nat) : Prop := w.cell? ⟨b, o + 1, none⟩ = some (.int .u64 eb) ∧ w.cell? ⟨b, o + 2, none⟩ = some (.int .u64 fb)
theorem At.drewN {w : World} {b o eb fb : Nat} (h : At w b o eb fb) (n : Nat) : At (w.drewN n) b o eb fb := by
  unfold At at *; simpa using h

set_option maxHeartbeats 400000 in
theorem signBit_any (eb fb b o : Nat) (w : World) (hf : Fm eb fb) (h : At w b o eb fb) :
    Calls Ybad.prog 6 #[.pointer (some ⟨b, o, none⟩)] w fun e w' => e = .returned (.int .u64 ((2 ^ (eb + fb) : Nat) : Int)) ∧ ∃ n, w' = w.drewN n := by
  obtain ⟨h1, h2⟩ := h
  rcases hf with ⟨rfl, rfl⟩ | ⟨rfl, rfl⟩ | ⟨rfl, rfl⟩ | ⟨rfl, rfl⟩ <;>
  · go_enter Ybad.func6, Ybad.ntmps6
    go_wp2
    go_quiet (fail)
    go_wp2
    go_ret
    exact ⟨ret_u64 (by rfl), _, rfl⟩

set_option maxHeartbeats 400000 in
theorem bias_any (eb fb b o : Nat) (w : World) (hf : Fm eb fb) (h : At w b o eb fb) :
    Calls Ybad.prog 9 #[.pointer (some ⟨b, o, none⟩)] w fun e w' => e = .returned (.int .i64 (bia eb)) ∧ w' = w := by
  obtain ⟨h1, h2⟩ := h
  rcases hf with ⟨rfl, rfl⟩ | ⟨rfl, rfl⟩ | ⟨rfl, rfl⟩ | ⟨rfl, rfl⟩ <;>
  · go_enter Ybad.func9, Ybad.ntmps9
    go_wp2
    go_ret
    exact ⟨ret_i64 (by rfl), rfl⟩

set_option maxHeartbeats 400000 in
theorem lowest_any (eb fb b o : Nat) (w : World) (hf : Fm eb fb) (h : At w b o eb fb) :
    Calls Ybad.prog 11 #[.pointer (some ⟨b, o, none⟩)] w fun e w' => e = .returned (.int .i64 (low eb fb)) ∧ ∃ n, w' = w.drewN n := by
  have Hf : Hid (Fm eb fb) := hf
  obtain ⟨h1, h2⟩ := h
  rcases hf with ⟨rfl, rfl⟩ | ⟨rfl, rfl⟩ | ⟨rfl, rfl⟩ | ⟨rfl, rfl⟩ <;>
  · go_enter Ybad.func11, Ybad.ntmps11
    go_wp2_with fail
    go_quiet ((go_at_call 9; exact Calls.quiet_of_same (bias_any _ _ b o _ Hf.out ⟨h1, h2⟩)))
    go_wp2
    go_ret
    exact ⟨ret_i64 (by simp [bia, low, wrap64]), _, rfl⟩

theorem ret_dec {a a' : Bool} {b b' c c' : Int} (h1 : a = a') (h2 : b = b') (h3 : c = c') :
    Ending.returned (.tuple #[.bool a, .int .u64 b, .int .i64 c]) = .returned (.tuple #[.bool a', .int .u64 b', .int .i64 c']) := by rw [h1, h2, h3]

set_option maxHeartbeats 1000000 in
theorem decompose_any (eb fb b o s z f : Nat) (w : World) (hf : Fm eb fb) (h : At w b o eb fb) (hs : s < 2) (hz : z < 2 ^ eb) (hfr : f < 2 ^ fb) :
    Calls Ybad.prog 7 #[.pointer (some ⟨b, o, none⟩), .int .u64 (pack eb fb s z f : Nat)] w fun e w' =>
      e = .returned (.tuple #[.bool (decide (s = 1)), .int .u64 (man fb z f : Nat), .int .i64 (xpo eb fb z)]) ∧ ∃ n, w' = w.drewN n := by
  have Hf : Hid (Fm eb fb) := hf
  have HA : Hid (At w b o eb fb) := h
  have hE := dec_exp hf hs hz hfr
  have hM := dec_frac hf hs hz hfr
  have hS := dec_sign hf hs hz hfr
  have hO := dec_top hf hfr
  have hx := pack_lt hf hs hz hfr
  have hl := low_bd hf
  obtain ⟨h1, h2⟩ := h
  generalize pack eb fb s z f = x at *
  by_cases z0 : z = 0
  · subst z0
    have hm0 : man fb 0 f = f := rfl
    have hx0 : xpo eb fb 0 = low eb fb := rfl
    rw [hm0, hx0]
    clear hm0 hx0 hO
    rcases hf with ⟨rfl, rfl⟩ | ⟨rfl, rfl⟩ | ⟨rfl, rfl⟩ | ⟨rfl, rfl⟩ <;>
    · simp at hE hM hS hfr
      go_enter Ybad.func7, Ybad.ntmps7
      go_wp2
      go_quiet (fail)
      go_wp2_with fail
      refine (lowest_any _ _ b o _ Hf.out (HA.out.drewN _)).mono ?_
      rintro e w' ⟨rfl, n, rfl⟩
      go_wp2_with fail
      refine (signBit_any _ _ b o _ Hf.out (HA.out.drewN _)).mono ?_
      rintro e w' ⟨rfl, n', rfl⟩
      go_wp2
      go_ret3
      exact ⟨ret_dec (by rcases (by omega : s = 0 ∨ s = 1) with rfl | rfl <;> rfl) rfl rfl, _, rfl⟩
  · have z1 : ((z : Int) != 0) = true := by rw [bne_iff_ne]; omega
    have hz1 : 1 ≤ z := by omega
    have hm0 : man fb z f = 2 ^ fb + f := by unfold man; rw [if_neg z0]
    have hx0 : xpo eb fb z = low eb fb + (z - 1) := by unfold xpo; rw [if_neg z0]
    rw [hm0, hx0]
    clear hm0 hx0 z0
    rcases hf with ⟨rfl, rfl⟩ | ⟨rfl, rfl⟩ | ⟨rfl, rfl⟩ | ⟨rfl, rfl⟩ <;>
    · simp at hE hM hS hO hz hfr
      go_enter Ybad.func7, Ybad.ntmps7
      go_wp2
      go_quiet (fail)
      go_wp2_with fail
      refine (lowest_any _ _ b o _ Hf.out (HA.out.drewN _)).mono ?_
      rintro e w' ⟨rfl, n, rfl⟩
      go_wp2_with fail
      refine (signBit_any _ _ b o _ Hf.out (HA.out.drewN _)).mono ?_
      rintro e w' ⟨rfl, n', rfl⟩
      go_wp2
      go_ret3
      exact ⟨ret_dec (by rcases (by omega : s = 0 ∨ s = 1) with rfl | rfl <;> rfl) (by simp) rfl, _, rfl⟩
end Go.Proofs.YbulkaqukDoor
