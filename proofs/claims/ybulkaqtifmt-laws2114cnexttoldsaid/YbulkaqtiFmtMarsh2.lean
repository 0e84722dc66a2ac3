/-
  MarshalBinary AND ITS CHECK AND SUM.
-/
import Derived.Test.YbulkaqtiFmtMarsh
namespace Go.Proofs.YbulkaqtiFmt
open Go.RowKit
set_option linter.unusedVariables false

set_option maxHeartbeats 1000000 in
set_option maxRecDepth 100000 in
theorem sum_any (g n c : Nat) (w : World) (hn : n ≤ 1000) (hc : ∀ j, j < n → ∃ z, w.cell? ⟨g, 1 + j, none⟩ = some (.int .u8 z)) :
    Calls Ybaf.prog 32 #[.slice (some ⟨g, 1, none⟩) n c] w fun e w' => ∃ z : Int, e = .returned (.int .u16 z) ∧ (0 ≤ z ∧ z ≤ 65535) ∧ w' = w := by
  have HC : Hid (∀ j, j < n → ∃ z, w.cell? ⟨g, 1 + j, none⟩ = some (.int .u8 z)) := hc
  clear hc
  go_enter Ybaf.func32, Ybaf.ntmps32
  go_wp2_with fail
  go_loopw [3, 8] (fun s i wr => wr = w ∧ ∃ k : Nat, ∃ z : Int, k ≤ n ∧ i = .int .i64 k ∧ s = .int .u16 z ∧ (0 ≤ z ∧ z ≤ 65535)) (fun _ i _ => n - (intOf i).toNat)
  case atStart => exact ⟨rfl, 0, 0, Nat.zero_le _, rfl, rfl, by decide, by decide⟩
  case round =>
    obtain ⟨rfl, k, z, hk, rfl, rfl, hz⟩ := hrel
    by_cases hlt : k < n
    · obtain ⟨x, hx⟩ := HC.out k hlt
      go_wp2_with fail
      go_roundw
      case rel => exact ⟨trivial, k + 1, _, by omega, by go_num, rfl, by simp only [IntKind.wrap_u16]; omega⟩
      case measure => simp [intOf]; omega
    · have hkn : k = n := by omega
      subst hkn
      go_wp2
      go_ret
      exact ⟨z, rfl, hz, rfl⟩

theorem and_u16 (a : Int) (ha : 0 ≤ a ∧ a ≤ 65535) : ∃ c : Int, bits .and .u16 a 32767 = c ∧ (0 ≤ c ∧ c ≤ 32767) := by
  refine ⟨_, u16_and a 32767 ha.1 (by omega) (by omega) (by omega), by omega, ?_⟩
  have : a.toNat &&& (32767 : Int).toNat ≤ 32767 := Nat.and_le_right
  omega
theorem and_u8 (a : Int) (ha : 0 ≤ a ∧ a ≤ 255) : ∃ c : Int, bits .and .u8 a 127 = c ∧ (0 ≤ c ∧ c ≤ 127) := by
  refine ⟨_, u8_and a 127 ha.1 (by omega) (by omega) (by omega), by omega, ?_⟩
  have : a.toNat &&& (127 : Int).toNat ≤ 127 := Nat.and_le_right
  omega

set_option maxHeartbeats 1000000 in
set_option maxRecDepth 100000 in
theorem check_any (h wb l : Bool) (D S Fn Nm Sy : Int) (sad : Option Addr) (n c : Nat) (w : World) (hn : n ≤ 244) (hD : 0 ≤ D ∧ D ≤ 32767) (hS : 0 ≤ S ∧ S ≤ 127) (hNm : 0 ≤ Nm ∧ Nm ≤ 32767) :
    Calls Ybaf.prog 38 #[.agg #[.bool h, .int .u16 D, .bool wb, .int .u8 S, .int .u8 Fn, .bool l, .int .u16 Nm, .int .u32 Sy, .slice sad n c]] w fun e w' => e = .returned .nilIface ∧ Keeps w.heap.size w w' := by
  have d1 : decide (32767 < D) = false := by simp; omega
  have d2 : decide (127 < S) = false := by simp; omega
  have d3 : decide (32767 < Nm) = false := by simp; omega
  have d4 : decide (244 < (n : Int)) = false := by simp; omega
  go_enter Ybaf.func38, Ybaf.ntmps38
  go_wp2
  go_ret
  exact ⟨rfl, (Keeps.refl _ _).alloc _ (Nat.le_refl _)⟩
end Go.Proofs.YbulkaqtiFmt
