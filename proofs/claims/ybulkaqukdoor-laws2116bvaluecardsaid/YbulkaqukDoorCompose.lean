/-
  compose, BY THREE CONTRACTS: zero, a normal value, a subnormal one.
-/
import Derived.Test.YbulkaqukDoorWalks
import Derived.Test.YbulkaqukDoorBits
import Derived.Test.YbulkaqukDoorLen
namespace Go.Proofs.YbulkaqukDoor
open Go.RowKit Num

theorem Tab.drewN {w : World} (h : Tab w) (n : Nat) : Tab (w.drewN n) := by
  intro j hj; simpa using h j hj
theorem tz64_odd (t m : Nat) (hm : m < 18446744073709551616) (hc : Lib.ctz 64 m = t) (h0 : m ≠ 0) (w : World) (hT : Tab w) :
    Calls Ybad.prog 13 #[.int .u64 m] w fun e w' => e = .returned (.int .i64 t) ∧ w' = w := by
  rw [← hc]; exact tz64_any m h0 hm w hT

set_option maxHeartbeats 1000000 in
theorem compose_zero (eb fb b o s : Nat) (e : Int) (w : World) (hf : Fm eb fb) (h : At w b o eb fb) (hs : s < 2) :
    Calls Ybad.prog 8 #[.pointer (some ⟨b, o, none⟩), .bool (decide (s = 1)), .int .u64 0, .int .i64 e] w fun r w' =>
      r = .returned (.int .u64 (pack eb fb s 0 0 : Nat)) ∧ ∃ n, w' = w.drewN n := by
  rcases (by omega : s = 0 ∨ s = 1) with rfl | rfl
  · go_enter Ybad.func8, Ybad.ntmps8
    go_wp2_with fail
    go_ret
    exact ⟨ret_u64 (by simp [pack]), 0, rfl⟩
  · go_enter Ybad.func8, Ybad.ntmps8
    go_wp2_with fail
    refine (signBit_any _ _ b o _ hf h).mono ?_
    rintro r w' ⟨rfl, n, rfl⟩
    go_wp2_with fail
    go_ret
    exact ⟨ret_u64 (by simp [pack]), _, rfl⟩

theorem drew2 (w : World) (a b : Nat) : ∃ n, (w.drewN a).drewN b = w.drewN n := ⟨_, World.drewN_drewN ..⟩
theorem drew3 (w : World) (a b c : Nat) : ∃ n, ((w.drewN a).drewN b).drewN c = w.drewN n := by
  rw [World.drewN_drewN, World.drewN_drewN]; exact ⟨_, rfl⟩

theorem odd_q {q t m : Nat} (hm : m < 18446744073709551616) (hm0 : m ≠ 0) (hqt : m = q * 2 ^ t) : q < 2 ^ 64 ∧ q ≠ 0 := by
  have hp := Nat.two_pow_pos t
  have h1 : q ≤ q * 2 ^ t := Nat.le_mul_of_pos_right q hp
  refine ⟨by rw [p64]; omega, ?_⟩
  intro h; subst h; simp at hqt; exact hm0 hqt

set_option maxHeartbeats 4000000 in
theorem compose_norm (eb fb b o s q t m n sh Z : Nat) (e : Int) (w : World) (hf : Fm eb fb) (h : At w b o eb fb) (hT : Tab w) (hs : s < 2)
    (hm : m < 18446744073709551616) (hm0 : m ≠ 0) (hqt : m = q * 2 ^ t) (ht : t < 64) (hc : Lib.ctz 64 m = t) (hn : Lib.bitLen q = n) (hsh : n + sh = fb + 1)
    (he : -3000 ≤ e ∧ e ≤ 3000) (hZ : e + t + n - 1 + bia eb = Z) (hZ1 : 1 ≤ Z) (hZ2 : Z < 2 ^ eb) :
    Calls Ybad.prog 8 #[.pointer (some ⟨b, o, none⟩), .bool (decide (s = 1)), .int .u64 m, .int .i64 e] w fun r w' =>
      r = .returned (.int .u64 (pack eb fb s Z (q * 2 ^ sh - 2 ^ fb) : Nat)) ∧ ∃ n, w' = w.drewN n := by
  have Hf : Hid (Fm eb fb) := hf
  have HA : Hid (At w b o eb fb) := h
  have m0 : ((m : Int) == 0) = false := by rw [beq_eq_false_iff_ne]; omega
  have hl := low_bd hf
  have hbi := bia_bd hf
  have hfb := fm_bd hf
  obtain ⟨hq64, hq0⟩ := odd_q hm hm0 hqt
  have hdiv : (m : Int) / 2 ^ t = q := by rw [hqt]; exact div_back q t
  have hq : q < 18446744073709551616 := by rw [← p64]; exact hq64
  have hgt : -bia eb < e + t + n - 1 := by omega
  have hF := comp_frac hf q n sh hn hq64 hq0 hsh
  have hFl := frac_lt (fb := fb) q n sh hn hq64 hq0 hsh
  have HJ : Hid (bits .or .u64 (bits .or .u64 ((s : Int) * ((2 ^ (eb + fb) : Nat) : Int)) ((Z : Int) * ((2 ^ fb : Nat) : Int))) ((q * 2 ^ sh - 2 ^ fb : Nat) : Int) = (pack eb fb s Z (q * 2 ^ sh - 2 ^ fb) : Nat)) := comp_join hf hs hZ2 hFl
  generalize q * 2 ^ sh - 2 ^ fb = F at *
  have Hc : Hid (Lib.ctz 64 m = t) := hc
  have Hn : Hid (Lib.bitLen q = n) := hn
  have HT : Hid (Tab w) := hT
  have HZ : Hid (e + t + n - 1 + bia eb = Z) := hZ
  clear hqt hc hn hT hZ hq64 hFl
  obtain ⟨h1, h2⟩ := h
  rcases hf with ⟨rfl, rfl⟩ | ⟨rfl, rfl⟩ | ⟨rfl, rfl⟩ | ⟨rfl, rfl⟩ <;>
  · simp only [Nat.reducePow, Nat.reduceSub, Int.cast_ofNat_Int] at hF hZ2
    clear hfb
    rcases (by omega : s = 0 ∨ s = 1) with rfl | rfl
    · go_enter Ybad.func8, Ybad.ntmps8
      go_wp2_with fail
      refine (tz64_odd t m hm Hc.out hm0 _ HT.out).mono ?_
      rintro r w' ⟨rfl, rfl⟩
      go_wp2_with fail
      refine (len64_any q _ hq).mono ?_
      rintro r w' ⟨rfl, rfl⟩
      rw [Hn.out]
      go_wp2_with fail
      refine (bias_any _ _ b o _ Hf.out HA.out).mono ?_
      rintro r w' ⟨rfl, rfl⟩
      go_wp2_with fail
      go_quiet (fail)
      have hZ := HZ.out
      go_wp2_with fail
      go_quiet ((go_at_call 9; refine (bias_any _ _ b o _ Hf.out (by first | exact HA.out | exact HA.out.drewN _ | exact (HA.out.drewN _).drewN _)).mono ?_; rintro _ _ ⟨he, hw⟩; exact ⟨he, _, hw⟩))
      go_wp2_with fail
      go_ret
      exact ⟨ret_u64 HJ.out, drew2 _ _ _⟩
    · go_enter Ybad.func8, Ybad.ntmps8
      go_wp2_with fail
      refine (signBit_any _ _ b o _ Hf.out HA.out).mono ?_
      rintro r w' ⟨rfl, n0, rfl⟩
      go_wp2_with fail
      refine (tz64_odd t m hm Hc.out hm0 _ (HT.out.drewN _)).mono ?_
      rintro r w' ⟨rfl, rfl⟩
      go_wp2_with fail
      refine (len64_any q _ hq).mono ?_
      rintro r w' ⟨rfl, rfl⟩
      rw [Hn.out]
      go_wp2_with fail
      refine (bias_any _ _ b o _ Hf.out (HA.out.drewN _)).mono ?_
      rintro r w' ⟨rfl, rfl⟩
      go_wp2_with fail
      go_quiet (fail)
      have hZ := HZ.out
      go_wp2_with fail
      go_quiet ((go_at_call 9; refine (bias_any _ _ b o _ Hf.out (by first | exact HA.out | exact HA.out.drewN _ | exact (HA.out.drewN _).drewN _)).mono ?_; rintro _ _ ⟨he, hw⟩; exact ⟨he, _, hw⟩))
      go_wp2_with fail
      go_ret
      exact ⟨ret_u64 HJ.out, drew3 _ _ _ _⟩

set_option maxHeartbeats 4000000 in
theorem compose_sub (eb fb b o s q t m n k : Nat) (e : Int) (w : World) (hf : Fm eb fb) (h : At w b o eb fb) (hT : Tab w) (hs : s < 2)
    (hm : m < 18446744073709551616) (hm0 : m ≠ 0) (hqt : m = q * 2 ^ t) (ht : t < 64) (hc : Lib.ctz 64 m = t) (hn : Lib.bitLen q = n) (hn64 : n ≤ 64)
    (he : -3000 ≤ e ∧ e ≤ 3000) (hle : e + t + n - 1 ≤ -bia eb) (hk : e + t - low eb fb = k) (hk2 : q * 2 ^ k < 2 ^ fb) :
    Calls Ybad.prog 8 #[.pointer (some ⟨b, o, none⟩), .bool (decide (s = 1)), .int .u64 m, .int .i64 e] w fun r w' =>
      r = .returned (.int .u64 (pack eb fb s 0 (q * 2 ^ k) : Nat)) ∧ ∃ n, w' = w.drewN n := by
  have Hf : Hid (Fm eb fb) := hf
  have HA : Hid (At w b o eb fb) := h
  have m0 : ((m : Int) == 0) = false := by rw [beq_eq_false_iff_ne]; omega
  have hl := low_bd hf
  have hbi := bia_bd hf
  have hfb := fm_bd hf
  obtain ⟨hq64, hq0⟩ := odd_q hm hm0 hqt
  have hdiv : (m : Int) / 2 ^ t = q := by rw [hqt]; exact div_back q t
  have hq : q < 18446744073709551616 := by rw [← p64]; exact hq64
  have hgt : ¬ (-bia eb < e + t + n - 1) := by omega
  have hp52 : 2 ^ fb ≤ 2 ^ 52 := Nat.pow_le_pow_right (by decide) (by omega)
  have e52 : (2 : Nat) ^ 52 = 4503599627370496 := by decide
  have hk64 : k ≤ 64 := by
    have : 2 ^ k ≤ q * 2 ^ k := Nat.le_mul_of_pos_left _ (by omega)
    have : 2 ^ k < 2 ^ 52 := by omega
    have := (Nat.pow_lt_pow_iff_right (by decide : 1 < 2)).1 this
    omega
  have hF : IntKind.u64.wrap ((q : Int) * 2 ^ (e + t - low eb fb).toNat) = ((q * 2 ^ k : Nat) : Int) := shl_eq q k _ hk (by omega)
  rw [hk, Int.toNat_natCast] at hF
  have HJ : Hid (bits .or .u64 ((s : Int) * ((2 ^ (eb + fb) : Nat) : Int)) ((q * 2 ^ k : Nat) : Int) = (pack eb fb s 0 (q * 2 ^ k) : Nat)) := comp_sub hf hs hk2
  clear hk2 hp52 e52
  generalize q * 2 ^ k = F at *
  have Hc : Hid (Lib.ctz 64 m = t) := hc
  have Hn : Hid (Lib.bitLen q = n) := hn
  have HT : Hid (Tab w) := hT
  have HK : Hid (e + t - low eb fb = k) := hk
  clear hqt hc hn hT hk hq64
  obtain ⟨h1, h2⟩ := h
  rcases hf with ⟨rfl, rfl⟩ | ⟨rfl, rfl⟩ | ⟨rfl, rfl⟩ | ⟨rfl, rfl⟩ <;>
  · clear hfb
    rcases (by omega : s = 0 ∨ s = 1) with rfl | rfl
    · go_enter Ybad.func8, Ybad.ntmps8
      go_wp2_with fail
      refine (tz64_odd t m hm Hc.out hm0 _ HT.out).mono ?_
      rintro r w' ⟨rfl, rfl⟩
      go_wp2_with fail
      refine (len64_any q _ hq).mono ?_
      rintro r w' ⟨rfl, rfl⟩
      rw [Hn.out]
      go_wp2_with fail
      refine (bias_any _ _ b o _ Hf.out HA.out).mono ?_
      rintro r w' ⟨rfl, rfl⟩
      go_wp2_with fail
      refine (lowest_any _ _ b o _ Hf.out HA.out).mono ?_
      rintro r w' ⟨rfl, n1, rfl⟩
      have hk := HK.out
      go_wp2_with fail
      go_ret
      exact ⟨ret_u64 HJ.out, _, rfl⟩
    · go_enter Ybad.func8, Ybad.ntmps8
      go_wp2_with fail
      refine (signBit_any _ _ b o _ Hf.out HA.out).mono ?_
      rintro r w' ⟨rfl, n0, rfl⟩
      go_wp2_with fail
      refine (tz64_odd t m hm Hc.out hm0 _ (HT.out.drewN _)).mono ?_
      rintro r w' ⟨rfl, rfl⟩
      go_wp2_with fail
      refine (len64_any q _ hq).mono ?_
      rintro r w' ⟨rfl, rfl⟩
      rw [Hn.out]
      go_wp2_with fail
      refine (bias_any _ _ b o _ Hf.out (HA.out.drewN _)).mono ?_
      rintro r w' ⟨rfl, rfl⟩
      go_wp2_with fail
      refine (lowest_any _ _ b o _ Hf.out (HA.out.drewN _)).mono ?_
      rintro r w' ⟨rfl, n1, rfl⟩
      have hk := HK.out
      go_wp2_with fail
      go_ret
      exact ⟨ret_u64 HJ.out, by first | exact ⟨_, rfl⟩ | exact drew2 _ _ _⟩
end Go.Proofs.YbulkaqukDoor
