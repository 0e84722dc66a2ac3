/-
  zzs2116bnorm AND zzs2116bformat, by contracts.
-/
import Derived.Test.YbulkaqukDoorCompose
namespace Go.Proofs.YbulkaqukDoor
open Go.RowKit Num

theorem half_pow (q j : Nat) : q * 2 ^ (j + 1) % 2 = 0 ∧ q * 2 ^ (j + 1) / 2 = q * 2 ^ j := by
  rw [Nat.pow_succ, ← Nat.mul_assoc]; omega
theorem and_one (x : Nat) (h : x < 18446744073709551616) : bits .and .u64 (x : Int) 1 = ((x % 2 : Nat) : Int) := mask 1 x (by decide) h

theorem ret_pair {a b c d : Int} (h1 : a = c) (h2 : b = d) : Ending.returned (.tuple #[.int .u64 a, .int .i64 b]) = .returned (.tuple #[.int .u64 c, .int .i64 d]) := by rw [h1, h2]

set_option maxHeartbeats 1000000 in
theorem norm_zero (e : Int) (w : World) :
    Calls Ybad.prog 12 #[.int .u64 0, .int .i64 e] w fun r w' => r = .returned (.tuple #[.int .u64 0, .int .i64 0]) ∧ w' = w := by
  go_enter Ybad.func12, Ybad.ntmps12
  go_wp2
  go_ret2
  exact ⟨rfl, rfl⟩

set_option maxHeartbeats 1000000 in
theorem norm_any (q t m : Nat) (e : Int) (w : World) (hq : q % 2 = 1) (hqt : m = q * 2 ^ t) (hm : m < 18446744073709551616) (ht : t < 64) (he : -9000 ≤ e ∧ e ≤ 9000) :
    Calls Ybad.prog 12 #[.int .u64 m, .int .i64 e] w fun r w' => r = .returned (.tuple #[.int .u64 q, .int .i64 (e + t)]) ∧ w' = w := by
  have hq0 : q ≠ 0 := by intro h; subst h; simp at hq
  have hm0 : m ≠ 0 := by
    have := Nat.two_pow_pos t
    have := Nat.le_mul_of_pos_right q this
    omega
  have m0 : ((m : Int) == 0) = false := by rw [beq_eq_false_iff_ne]; omega
  have Hqt : Hid (m = q * 2 ^ t) := hqt
  have Hq : Hid (q % 2 = 1) := hq
  clear hqt hq
  go_enter Ybad.func12, Ybad.ntmps12
  go_wp2
  go_loop [0, 1] (fun a b => ∃ i x : Nat, i ≤ t ∧ x = q * 2 ^ i ∧ x ≤ m ∧ a = .int .u64 x ∧ b = .int .i64 (e + t - i)) (fun _ b => (e + t - intOf b).toNat)
  case atStart => exact ⟨t, m, Nat.le_refl _, Hqt.out, Nat.le_refl _, rfl, by go_num⟩
  case round =>
    obtain ⟨i, x, hi, hx, hxm, rfl, rfl⟩ := hrel
    have ho := and_one x (by omega)
    cases i with
    | zero =>
      have hx1 : x % 2 = 1 := by rw [hx]; simpa using Hq.out
      rw [hx1] at ho
      have HX : Hid (x = q * 2 ^ 0) := hx
      clear hx hx1
      go_wp2
      go_ret2
      exact ⟨ret_pair (by rw [HX.out]; simp) (by simp), rfl⟩
    | succ i =>
      obtain ⟨g1, g2⟩ := half_pow q i
      rw [← hx] at g1 g2
      rw [g1] at ho
      have hd : (x : Int) / 2 = ((q * 2 ^ i : Nat) : Int) := by omega
      have hle : q * 2 ^ i ≤ m := by omega
      generalize hy : q * 2 ^ i = y at *
      have HY : Hid (q * 2 ^ i = y) := hy
      clear hx g1 g2 hy
      go_wp2
      go_round
      case rel => exact ⟨i, y, by omega, HY.out.symm, hle, rfl, by go_num⟩
      case measure => simp [intOf]; omega

set_option maxHeartbeats 1000000 in
theorem format_any (a : Int) (ha : 0 ≤ a) (hb : a ≤ 255) (w : World) :
    Calls Ybad.prog 5 #[.int .u8 a] w fun r w' => ∃ eb fb : Nat, ∃ nm : ByteArray, Fm eb fb ∧ r = .returned (.agg #[.string nm, .int .u64 eb, .int .u64 fb]) ∧ Below w.heap.size w w' := by
  have h4 : a % 4 = 0 ∨ a % 4 = 1 ∨ a % 4 = 2 ∨ a % 4 = 3 := by omega
  rcases h4 with h | h | h | h
  · go_enter Ybad.func5, Ybad.ntmps5
    go_wp2
    exact bodyPost_ret (v := .agg #[.string ⟨#[102, 49, 54]⟩, .int .u64 5, .int .u64 10]) (by simp [results, Ybad.results5, go_sem]) rfl ⟨5, 10, _, Or.inl ⟨rfl, rfl⟩, rfl, (Below.refl _ _).alloc (Nat.le_refl _) _⟩
  · go_enter Ybad.func5, Ybad.ntmps5
    go_wp2
    exact bodyPost_ret (v := .agg #[.string ⟨#[102, 51, 50]⟩, .int .u64 8, .int .u64 23]) (by simp [results, Ybad.results5, go_sem]) rfl ⟨8, 23, _, Or.inr (Or.inl ⟨rfl, rfl⟩), rfl, (Below.refl _ _).alloc (Nat.le_refl _) _⟩
  · go_enter Ybad.func5, Ybad.ntmps5
    go_wp2
    exact bodyPost_ret (v := .agg #[.string ⟨#[98, 102, 49, 54]⟩, .int .u64 8, .int .u64 7]) (by simp [results, Ybad.results5, go_sem]) rfl ⟨8, 7, _, Or.inr (Or.inr (Or.inl ⟨rfl, rfl⟩)), rfl, (Below.refl _ _).alloc (Nat.le_refl _) _⟩
  · go_enter Ybad.func5, Ybad.ntmps5
    go_wp2
    exact bodyPost_ret (v := .agg #[.string ⟨#[102, 54, 52]⟩, .int .u64 11, .int .u64 52]) (by simp [results, Ybad.results5, go_sem]) rfl ⟨11, 52, _, Or.inr (Or.inr (Or.inr ⟨rfl, rfl⟩)), rfl, (Below.refl _ _).alloc (Nat.le_refl _) _⟩
end Go.Proofs.YbulkaqukDoor
