/-
  LawS2116BValue: what compose lays, decompose takes apart to the same value; the law's own walk.
-/
import Derived.Test.YbulkaqukDoorRound
namespace Go.Proofs.YbulkaqukDoor
open Go.RowKit Num

theorem bia_two {eb fb : Nat} (h : Fm eb fb) : 2 * bia eb + 2 = ((2 ^ eb : Nat) : Int) := by
  rcases h with ⟨rfl, rfl⟩ | ⟨rfl, rfl⟩ | ⟨rfl, rfl⟩ | ⟨rfl, rfl⟩ <;> decide

theorem at_drew {w w' : World} {b o eb fb n : Nat} (h : At w b o eb fb) (hw : w' = w.drewN n) : Hid (At w' b o eb fb) := by rw [hw]; exact h.drewN n
theorem tab_drew {w w' : World} {n : Nat} (h : Tab w) (hw : w' = w.drewN n) : Hid (Tab w') := by rw [hw]; exact h.drewN n
theorem below_drew {a w w' : World} {B n : Nat} (h : Below B a w) (hw : w' = w.drewN n) : Hid (Below B a w') := by rw [hw]; exact bdrew h n

/-- compose at a number that the format holds: the fields that it lays, and what they are worth -/
theorem compose_value (eb fb b o s m : Nat) (e : Int) (w : World) (hf : Fm eb fb) (h : At w b o eb fb) (hT : Tab w) (hs : s < 2) (hm : m < 2 ^ (fb + 1)) (hm0 : m ≠ 0)
    (he : low eb fb ≤ e) (he2 : e + Lib.bitLen m - 1 ≤ bia eb) :
    ∃ Z F q t t2 : Nat, Z < 2 ^ eb ∧ F < 2 ^ fb ∧ q % 2 = 1 ∧ m = q * 2 ^ t ∧ t < 64 ∧ man fb Z F = q * 2 ^ t2 ∧ t2 < 64 ∧ man fb Z F < 18446744073709551616 ∧ e + t = xpo eb fb Z + t2 ∧ -3000 ≤ xpo eb fb Z ∧ xpo eb fb Z ≤ 3000 ∧
    Calls Ybad.prog 8 #[.pointer (some ⟨b, o, none⟩), .bool (decide (s = 1)), .int .u64 m, .int .i64 e] w fun r w' =>
      r = .returned (.int .u64 (pack eb fb s Z F : Nat)) ∧ ∃ n, w' = w.drewN n := by
  have hl := low_bd hf
  have hfb := fm_bd hf
  have hbi := bia_bd hf
  have hb2 := bia_two hf
  have hlow : low eb fb = 1 - bia eb - fb := rfl
  have hp53 : 2 ^ (fb + 1) ≤ 2 ^ 53 := Nat.pow_le_pow_right (by decide) (by omega)
  have e53 : (2 : Nat) ^ 53 = 9007199254740992 := by decide
  have hp11 : 2 ^ eb ≤ 2 ^ 11 := Nat.pow_le_pow_right (by decide) (by omega)
  have e11 : (2 : Nat) ^ 11 = 2048 := by decide
  have e64 := p64
  obtain ⟨q, t, hqt, hodd, hc, ht⟩ := odd_part m hm0 (by omega)
  have hq0 : q ≠ 0 := by intro h; subst h; simp at hodd
  have hlen := bitLen_mul q t (by omega) hq0
  rw [← hqt] at hlen
  have hle := Lib.bitLen_le m (fb + 1) (by omega) hm
  obtain ⟨hq64, _⟩ := odd_q (by omega) hm0 hqt
  obtain ⟨ha, hb, hc2⟩ := bitLen_bounds q hq64 hq0
  by_cases htop : -bia eb < e + t + Lib.bitLen q - 1
  · obtain ⟨sh, hsh⟩ : ∃ sh, Lib.bitLen q + sh = fb + 1 := ⟨fb + 1 - Lib.bitLen q, by omega⟩
    obtain ⟨Z, hZ⟩ : ∃ Z : Nat, e + t + Lib.bitLen q - 1 + bia eb = Z := ⟨(e + t + Lib.bitLen q - 1 + bia eb).toNat, by omega⟩
    obtain ⟨f1, f2⟩ := full_bd (fb := fb) q _ sh rfl hq64 hq0 hsh
    have f3 := frac_lt (fb := fb) q _ sh rfl hq64 hq0 hsh
    have hZ0 : Z ≠ 0 := by omega
    have hman : man fb Z (q * 2 ^ sh - 2 ^ fb) = q * 2 ^ sh := by unfold man; rw [if_neg hZ0]; omega
    have hxpo : xpo eb fb Z = low eb fb + (Z - 1) := by unfold xpo; rw [if_neg hZ0]
    refine ⟨Z, q * 2 ^ sh - 2 ^ fb, q, t, sh, by omega, f3, hodd, hqt, ht, hman, by omega, by omega, by omega, by omega, by omega, ?_⟩
    exact compose_norm eb fb b o s q t m (Lib.bitLen q) sh Z e w hf h hT hs (by omega) hm0 hqt ht hc rfl hsh (by omega) hZ (by omega) (by omega)
  · obtain ⟨k, hk⟩ : ∃ k : Nat, e + t - low eb fb = k := ⟨(e + t - low eb fb).toNat, by omega⟩
    have hk2 : q * 2 ^ k < 2 ^ fb := by
      have h1 : q * 2 ^ k < 2 ^ Lib.bitLen q * 2 ^ k := (Nat.mul_lt_mul_right (Nat.two_pow_pos k)).2 hc2
      rw [← Nat.pow_add] at h1
      exact Nat.lt_of_lt_of_le h1 (Nat.pow_le_pow_right (by decide) (by omega))
    have hpf : 2 ^ fb ≤ 2 ^ (fb + 1) := Nat.pow_le_pow_right (by decide) (by omega)
    refine ⟨0, q * 2 ^ k, q, t, k, Nat.two_pow_pos eb, hk2, hodd, hqt, ht, rfl, by omega, ?_, ?_, ?_, ?_, ?_⟩
    · show q * 2 ^ k < _; omega
    · show e + t = low eb fb + k; omega
    · show -3000 ≤ low eb fb; omega
    · show low eb fb ≤ 3000; omega
    · exact compose_sub eb fb b o s q t m (Lib.bitLen q) k e w hf h hT hs (by omega) hm0 hqt ht hc rfl (by omega) (by omega) (by omega) hk hk2

set_option maxHeartbeats 4000000 in
theorem value_walk (a0 : Int) (h0 : 0 ≤ a0) (h1 : a0 ≤ 255) (neg : Bool) (mr er : Nat) (hmr : mr < 18446744073709551616) (her : er < 18446744073709551616) (w : World) (hT : Tab w) (hsz : 0 < w.heap.size) :
    Calls Ybad.prog 4 #[.int .u8 a0, .bool neg, .int .u64 mr, .int .u64 er] w fun e w' => e = .returned (.bool true) ∧ Below w.heap.size w w' := by
  obtain ⟨s, hs, rfl⟩ : ∃ s : Nat, s < 2 ∧ neg = decide (s = 1) := by
    cases neg
    · exact ⟨0, by decide, rfl⟩
    · exact ⟨1, by decide, rfl⟩
  go_enter Ybad.func4, Ybad.ntmps4
  go_wp2_with fail
  refine (format_any a0 h0 h1 _).mono ?_
  rintro r w1 ⟨eb, fb, nm, hf, rfl, hb1⟩
  have HT : Hid (Tab (w1.alloc (.cells #[.string nm, .int .u64 eb, .int .u64 fb] 26))) := (hT.below hb1 hsz).below ((Below.refl _ _).alloc (Nat.le_refl _) _) (Nat.lt_of_lt_of_le hsz hb1.size)
  have HA : Hid (At (w1.alloc (.cells #[.string nm, .int .u64 eb, .int .u64 fb] 26)) w1.heap.size 0 eb fb) := At.new w1 nm eb fb
  have HB : Hid (Below w.heap.size w (w1.alloc (.cells #[.string nm, .int .u64 eb, .int .u64 fb] 26))) := hb1.alloc hb1.size _
  clear hT
  have Hf : Hid (Fm eb fb) := hf
  have hl := low_bd hf
  have hfb := fm_bd hf
  have hbi := bia_bd hf
  have hM := mask (fb + 1) mr (by omega) hmr
  have hm : mr % 2 ^ (fb + 1) < 2 ^ (fb + 1) := Nat.mod_lt _ (Nat.two_pow_pos _)
  generalize mr % 2 ^ (fb + 1) = m at *
  have hp53 : 2 ^ (fb + 1) ≤ 2 ^ 53 := Nat.pow_le_pow_right (by decide) (by omega)
  have e53 : (2 : Nat) ^ 53 = 9007199254740992 := by decide
  have hm64 : m < 18446744073709551616 := by omega
  have hL := Lib.bitLen_le m (fb + 1) (by omega) hm
  have hlow : low eb fb = 1 - bia eb - fb := rfl
  obtain ⟨ρ, hR, hρ⟩ : ∃ ρ : Nat, (er : Int) % (bia eb - (Lib.bitLen m : Int) + 2 - low eb fb) = (ρ : Int) ∧ (ρ : Int) < bia eb - (Lib.bitLen m : Int) + 2 - low eb fb := by
    have p1 : 0 < bia eb - (Lib.bitLen m : Int) + 2 - low eb fb := by omega
    have p2 := Int.emod_nonneg (er : Int) (show bia eb - (Lib.bitLen m : Int) + 2 - low eb fb ≠ 0 by omega)
    have p3 := Int.emod_lt_of_pos (er : Int) p1
    exact ⟨((er : Int) % (bia eb - (Lib.bitLen m : Int) + 2 - low eb fb)).toNat, by omega, by omega⟩
  have Hm : Hid (m < 2 ^ (fb + 1)) := hm
  have HV := fun (wx : World) (ha : At wx w1.heap.size 0 eb fb) (ht : Tab wx) (h0 : m ≠ 0) => compose_value eb fb w1.heap.size 0 s m (low eb fb + ρ) wx hf ha ht hs hm h0 (by omega) (by omega)
  have HV' : Hid (∀ (wx : World), At wx w1.heap.size 0 eb fb → Tab wx → m ≠ 0 → ∃ Z F q t t2 : Nat, Z < 2 ^ eb ∧ F < 2 ^ fb ∧ q % 2 = 1 ∧ m = q * 2 ^ t ∧ t < 64 ∧ man fb Z F = q * 2 ^ t2 ∧ t2 < 64 ∧ man fb Z F < 18446744073709551616 ∧ (low eb fb + ρ) + t = xpo eb fb Z + t2 ∧ -3000 ≤ xpo eb fb Z ∧ xpo eb fb Z ≤ 3000 ∧
    Calls Ybad.prog 8 #[.pointer (some ⟨w1.heap.size, 0, none⟩), .bool (decide (s = 1)), .int .u64 m, .int .i64 (low eb fb + ρ)] wx fun r w' =>
      r = .returned (.int .u64 (pack eb fb s Z F : Nat)) ∧ ∃ n, w' = wx.drewN n) := HV
  clear HV hlow hm e53 hp53
  rcases hf with ⟨rfl, rfl⟩ | ⟨rfl, rfl⟩ | ⟨rfl, rfl⟩ | ⟨rfl, rfl⟩ <;>
  · clear hfb
    simp only [Nat.reducePow, Nat.reduceSub, Nat.reduceAdd, Int.cast_ofNat_Int] at hM
    go_wp2_with fail
    refine (bias_any _ _ w1.heap.size 0 _ Hf.out HA.out).mono ?_
    rintro r w2 ⟨rfl, rfl⟩
    go_wp2_with fail
    refine (len64_any m _ hm64).mono ?_
    rintro r w2 ⟨rfl, rfl⟩
    go_wp2_with fail
    refine (lowest_any _ _ w1.heap.size 0 _ Hf.out HA.out).mono ?_
    rintro r w2 ⟨rfl, n1, hw2⟩
    have HA2 := at_drew HA.out hw2
    have HT2 := tab_drew HT.out hw2
    have HB2 := below_drew HB.out hw2
    clear hw2 HA HT HB
    go_wp2_with fail
    go_quiet ((go_at_call 11; exact Calls.quiet_of (lowest_any _ _ w1.heap.size 0 _ Hf.out (HA2.out.drewN _))))
    go_wp2_with fail
    by_cases hm0 : m = 0
    · subst hm0
      clear HV'
      refine (compose_zero _ _ w1.heap.size 0 s _ _ Hf.out (HA2.out.drewN _) hs).mono ?_
      rintro r w3 ⟨rfl, n3, hw3⟩
      have HA3 := at_drew (HA2.out.drewN _) hw3
      have HB3 := below_drew (bdrew HB2.out _) hw3
      clear hw3 HA2 HT2 HB2
      go_wp2_with fail
      refine (decompose_any _ _ w1.heap.size 0 s 0 0 _ Hf.out HA3.out hs (by decide) (by decide)).mono ?_
      rintro r w4 ⟨rfl, n4, hw4⟩
      have HB4 := below_drew HB3.out hw4
      clear hw4 HB3 HA3
      have hmz : ∀ k, man k 0 0 = 0 := fun _ => rfl
      go_wp2_with fail
      refine (norm_zero _ _).mono ?_
      rintro r w5 ⟨rfl, rfl⟩
      go_wp2_with fail
      refine (norm_zero _ _).mono ?_
      rintro r w5 ⟨rfl, rfl⟩
      go_wp2_with fail
      go_ret
      exact ⟨rfl, HB4.out⟩
    · obtain ⟨Z, F, q, t, t2, hZ, hF, hodd, hqt, ht, hman, ht2, hmlt, hxe, hx1, hx2, HC⟩ := HV'.out (w2.drewN nq) (HA2.out.drewN _) (HT2.out.drewN _) hm0
      have HZ : Hid (Z < 2 ^ _) := hZ
      have HF : Hid (F < 2 ^ _) := hF
      have HO : Hid (q % 2 = 1) := hodd
      have HQ : Hid (m = q * 2 ^ t) := hqt
      have HM : Hid (man _ Z F = q * 2 ^ t2) := hman
      have HX : Hid (low _ _ + ρ + t = xpo _ _ Z + t2) := hxe
      clear hZ hF hodd hqt hman hxe HV'
      refine HC.mono ?_
      rintro r w3 ⟨rfl, n3, hw3⟩
      have HA3 := at_drew (HA2.out.drewN _) hw3
      have HB3 := below_drew (bdrew HB2.out _) hw3
      clear hw3 HA2 HT2 HB2 HC
      go_wp2_with fail
      refine (decompose_any _ _ w1.heap.size 0 s Z F _ Hf.out HA3.out hs HZ.out HF.out).mono ?_
      rintro r w4 ⟨rfl, n4, hw4⟩
      have HB4 := below_drew HB3.out hw4
      clear hw4 HB3 HA3
      go_wp2_with fail
      refine (norm_any q t m _ _ HO.out HQ.out hm64 ht (by omega)).mono ?_
      rintro r w5 ⟨rfl, rfl⟩
      go_wp2_with fail
      refine (norm_any q t2 _ _ _ HO.out HM.out hmlt ht2 (by omega)).mono ?_
      rintro r w5 ⟨rfl, rfl⟩
      have hX := HX.out
      go_wp2_with fail
      go_ret
      exact ⟨rfl, HB4.out⟩
end Go.Proofs.YbulkaqukDoor
