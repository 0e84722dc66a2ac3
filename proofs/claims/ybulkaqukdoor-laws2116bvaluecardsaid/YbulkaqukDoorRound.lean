/-
  LawS2116BRoundTrip: compose gives back what decompose took apart; the law's own walk.
-/
import Derived.Test.YbulkaqukDoorNorm
namespace Go.Proofs.YbulkaqukDoor
open Go.RowKit Num

/-- compose behind decompose -/
theorem compose_back (eb fb b o s z f : Nat) (w : World) (hf : Fm eb fb) (h : At w b o eb fb) (hT : Tab w) (hs : s < 2) (hz : z < 2 ^ eb) (hfr : f < 2 ^ fb) :
    Calls Ybad.prog 8 #[.pointer (some ⟨b, o, none⟩), .bool (decide (s = 1)), .int .u64 (man fb z f : Nat), .int .i64 (xpo eb fb z)] w fun r w' =>
      r = .returned (.int .u64 (pack eb fb s z f : Nat)) ∧ ∃ n, w' = w.drewN n := by
  have hl := low_bd hf
  have hfb := fm_bd hf
  have hbi := bia_bd hf
  have hlow : low eb fb = 1 - bia eb - fb := rfl
  have hp52 : 2 ^ fb ≤ 2 ^ 52 := Nat.pow_le_pow_right (by decide) (by omega)
  have e52 : (2 : Nat) ^ 52 = 4503599627370496 := by decide
  have hp11 : 2 ^ eb ≤ 2 ^ 11 := Nat.pow_le_pow_right (by decide) (by omega)
  have e11 : (2 : Nat) ^ 11 = 2048 := by decide
  have e64 := p64
  by_cases hz0 : z = 0
  · subst hz0
    have hm : man fb 0 f = f := rfl
    have hx : xpo eb fb 0 = low eb fb := rfl
    rw [hm, hx]
    by_cases hf0 : f = 0
    · subst hf0
      exact compose_zero eb fb b o s _ w hf h hs
    · obtain ⟨q, t, hqt, hodd, hc, ht⟩ := odd_part f hf0 (by omega)
      have hq0 : q ≠ 0 := by intro h; subst h; simp at hodd
      have hlen := bitLen_mul q t (by omega) hq0
      have hle := Lib.bitLen_le f fb (by omega) hfr
      rw [← hqt] at hlen
      have := compose_sub eb fb b o s q t f (Lib.bitLen q) t (low eb fb) w hf h hT hs (by omega) hf0 hqt ht hc rfl (by omega) (by omega) (by omega) (by omega) (by omega)
      rw [← hqt] at this
      exact this
  · have hm : man fb z f = 2 ^ fb + f := by unfold man; rw [if_neg hz0]
    have hx : xpo eb fb z = low eb fb + (z - 1) := by unfold xpo; rw [if_neg hz0]
    rw [hm, hx]
    have hpos := Nat.two_pow_pos fb
    obtain ⟨q, t, hqt, hodd, hc, ht⟩ := odd_part (2 ^ fb + f) (by omega) (by omega)
    have hq0 : q ≠ 0 := by intro h; subst h; simp at hodd
    have hlen := bitLen_mul q t (by omega) hq0
    rw [← hqt, bitLen_of (2 ^ fb + f) fb (by omega) (by omega) (by rw [Nat.pow_succ]; omega)] at hlen
    have := compose_norm eb fb b o s q t (2 ^ fb + f) (Lib.bitLen q) t z (low eb fb + (z - 1)) w hf h hT hs (by omega) (by omega) hqt ht hc rfl (by omega) (by omega) (by omega) (by omega) hz
    rw [← hqt, Nat.add_sub_cancel_left] at this
    exact this

theorem At.new (w : World) (nm : ByteArray) (eb fb : Nat) : At (w.alloc (.cells #[.string nm, .int .u64 eb, .int .u64 fb] 26)) w.heap.size 0 eb fb := by
  unfold At; simp
theorem Tab.below {w w' : World} {B : Nat} (h : Tab w) (hb : Below B w w') (h0 : 0 < B) : Tab w' := by
  intro j hj; rw [hb.cell (p := ⟨0, j, none⟩) h0]; exact h j hj
theorem bdrew {B : Nat} {a w : World} (h : Below B a w) (n : Nat) : Below B a (w.drewN n) := by
  induction n with
  | zero => exact h
  | succ n ih => exact ih.drew

/-- the law's own bits -/
theorem join_frac {eb fb z f : Nat} (hf : Fm eb fb) (hz : z < 2 ^ eb) (hfr : f < 2 ^ fb) :
    bits .or .u64 ((z : Int) * ((2 ^ fb : Nat) : Int)) (f : Int) = (pack eb fb 0 z f : Nat) := by
  have := comp_join (s := 0) hf (by decide) hz hfr
  rw [comp_join1 hf (by decide) hz] at this
  simpa using this
theorem join_sign {eb fb z f : Nat} (hf : Fm eb fb) (hz : z < 2 ^ eb) (hfr : f < 2 ^ fb) :
    bits .or .u64 (pack eb fb 0 z f : Nat) ((2 ^ (eb + fb) : Nat) : Int) = (pack eb fb 1 z f : Nat) := by
  have hl := pack_lt (s := 1) hf (by decide) hz hfr
  have hlt : pack eb fb 0 z f < 2 ^ (eb + fb) := by
    unfold pack
    rcases hf with ⟨rfl, rfl⟩ | ⟨rfl, rfl⟩ | ⟨rfl, rfl⟩ | ⟨rfl, rfl⟩ <;> simp at * <;> omega
  unfold pack at *
  rw [join' (eb + fb) _ _ hlt (by simp) (by omega)]
  congr 1
  omega

set_option maxHeartbeats 4000000 in
theorem round_walk (a0 : Int) (h0 : 0 ≤ a0) (h1 : a0 ≤ 255) (neg : Bool) (ex fr : Nat) (hex : ex < 65536) (hfr : fr < 18446744073709551616) (w : World) (hT : Tab w) (hsz : 0 < w.heap.size) :
    Calls Ybad.prog 3 #[.int .u8 a0, .bool neg, .int .u16 ex, .int .u64 fr] w fun e w' => e = .returned (.bool true) ∧ Below w.heap.size w w' := by
  go_enter Ybad.func3, Ybad.ntmps3
  go_wp2_with fail
  refine (format_any a0 h0 h1 _).mono ?_
  rintro r w1 ⟨eb, fb, nm, hf, rfl, hb1⟩
  have HT : Hid (Tab (w1.alloc (.cells #[.string nm, .int .u64 eb, .int .u64 fb] 26))) := (hT.below hb1 hsz).below ((Below.refl _ _).alloc (Nat.le_refl _) _) (Nat.lt_of_lt_of_le hsz hb1.size)
  have HA : Hid (At (w1.alloc (.cells #[.string nm, .int .u64 eb, .int .u64 fb] 26)) w1.heap.size 0 eb fb) := At.new w1 nm eb fb
  have HB : Hid (Below w.heap.size w (w1.alloc (.cells #[.string nm, .int .u64 eb, .int .u64 fb] 26))) := hb1.alloc hb1.size _
  clear hT
  have Hf : Hid (Fm eb fb) := hf
  have hfb := fm_bd hf
  have hez : ex % (2 ^ eb - 1) < 2 ^ eb := by
    have h5 : 2 ^ 5 ≤ 2 ^ eb := Nat.pow_le_pow_right (by decide) (by omega)
    have e5 : (2 : Nat) ^ 5 = 32 := by decide
    have := Nat.mod_lt ex (show 2 ^ eb - 1 > 0 by omega)
    omega
  have hff : fr % 2 ^ fb < 2 ^ fb := Nat.mod_lt _ (Nat.two_pow_pos fb)
  have hz : (ex : Int) % ((2 ^ eb - 1 : Nat) : Int) = ((ex % (2 ^ eb - 1) : Nat) : Int) := (Int.natCast_emod _ _).symm
  have hF := mask fb fr (by omega) hfr
  have hB := join_frac hf hez hff
  have hS := join_sign hf hez hff
  generalize ex % (2 ^ eb - 1) = z at *
  generalize fr % 2 ^ fb = f at *
  have HB1 := decompose_any eb fb w1.heap.size 0 (cond neg 1 0) z f _ hf HA.out (by cases neg <;> decide) hez hff
  have Hez : Hid (z < 2 ^ eb) := hez
  have Hff : Hid (f < 2 ^ fb) := hff
  have HD : Hid (Calls Ybad.prog 7 #[.pointer (some ⟨w1.heap.size, 0, none⟩), .int .u64 (pack eb fb (cond neg 1 0) z f : Nat)] (w1.alloc (.cells #[.string nm, .int .u64 eb, .int .u64 fb] 26)) fun e w' =>
      e = .returned (.tuple #[.bool (decide (cond neg 1 0 = 1)), .int .u64 (man fb z f : Nat), .int .i64 (xpo eb fb z)]) ∧ ∃ n, w' = (w1.alloc (.cells #[.string nm, .int .u64 eb, .int .u64 fb] 26)).drewN n) := HB1
  clear HB1 hez hff
  rcases hf with ⟨rfl, rfl⟩ | ⟨rfl, rfl⟩ | ⟨rfl, rfl⟩ | ⟨rfl, rfl⟩ <;>
  · clear hfb
    simp only [Nat.reducePow, Nat.reduceSub, Nat.reduceAdd, Int.cast_ofNat_Int] at hz hF hB hS
    cases neg
    · go_wp2_with fail
      refine HD.out.mono ?_
      rintro r w2 ⟨rfl, n, rfl⟩
      go_wp2_with fail
      refine (compose_back _ _ w1.heap.size 0 0 z f _ Hf.out (HA.out.drewN n) (HT.out.drewN n) (by decide) Hez.out Hff.out).mono ?_
      rintro r w3 ⟨rfl, n', rfl⟩
      go_wp2_with fail
      go_ret
      exact ⟨by simp, bdrew HB.out _⟩
    · go_wp2_with fail
      refine (signBit_any _ _ w1.heap.size 0 _ Hf.out HA.out).mono ?_
      rintro r w2 ⟨rfl, n, rfl⟩
      go_wp2_with fail
      refine (decompose_any _ _ w1.heap.size 0 1 z f _ Hf.out (HA.out.drewN n) (by decide) Hez.out Hff.out).mono ?_
      rintro r w3 ⟨rfl, n', rfl⟩
      go_wp2_with fail
      refine (compose_back _ _ w1.heap.size 0 1 z f _ Hf.out (by first | exact HA.out.drewN _ | exact (HA.out.drewN _).drewN _) (by first | exact HT.out.drewN _ | exact (HT.out.drewN _).drewN _) (by decide) Hez.out Hff.out).mono ?_
      rintro r w4 ⟨rfl, n'', rfl⟩
      go_wp2_with fail
      go_ret
      exact ⟨by simp, by first | exact bdrew HB.out _ | exact bdrew (bdrew HB.out _) _ | exact bdrew (bdrew (bdrew HB.out _) _) _⟩
end Go.Proofs.YbulkaqukDoor
