/-
  PLAIN ARITHMETIC for the two laws over binary floats: masks, joins of bit fields, the lengths of numbers. No Go program in sight (only the model's 'bits' on uint64).
-/
import Derived.Laws.BitsAllLaws
import Derived.Lib.BitFns
import Derived.Lib.ItoaNum
import Derived.Lib.TrailingZeros
namespace Go.Proofs.YbulkaqukDoor.Num
open Go

/-- the four formats: how many bits the exponent and the fraction have -/
def Fm (eb fb : Nat) : Prop := (eb = 5 ∧ fb = 10) ∨ (eb = 8 ∧ fb = 23) ∨ (eb = 8 ∧ fb = 7) ∨ (eb = 11 ∧ fb = 52)
def bia (eb : Nat) : Int := 2 ^ (eb - 1) - 1
def low (eb fb : Nat) : Int := 1 - bia eb - fb

theorem mask (k x : Nat) (hk : k ≤ 64) (hx : x < 18446744073709551616) : bits .and .u64 (x : Int) ((2 ^ k - 1 : Nat) : Int) = ((x % 2 ^ k : Nat) : Int) := by
  have hp : 2 ^ k ≤ 2 ^ 64 := Nat.pow_le_pow_right (by decide) hk
  have h0 : 0 < 2 ^ k := Nat.two_pow_pos k
  rw [u64_and_nat x (2 ^ k - 1) hx (by have : (2 : Nat) ^ 64 = 18446744073709551616 := by decide
                                       omega), Nat.and_two_pow_sub_one_eq_mod]
theorem join (k a b : Nat) (ha : a < 2 ^ k) (hb : b % 2 ^ k = 0) (hs : b + a < 18446744073709551616) : bits .or .u64 (b : Int) (a : Int) = ((b + a : Nat) : Int) := by
  rw [u64_or_nat b a (by omega) (by omega), nat_join k b a hb ha]
theorem join' (k a b : Nat) (ha : a < 2 ^ k) (hb : b % 2 ^ k = 0) (hs : b + a < 18446744073709551616) : bits .or .u64 (a : Int) (b : Int) = ((b + a : Nat) : Int) := by
  rw [u64_or_nat a b (by omega) (by omega), Nat.or_comm, nat_join k b a hb ha]
theorem bit (k x : Nat) (hk : k < 64) (hx : x < 18446744073709551616) : bits .and .u64 (x : Int) ((2 ^ k : Nat) : Int) = ((x / 2 ^ k % 2 * 2 ^ k : Nat) : Int) := by
  have hp : 2 ^ k ≤ 2 ^ 63 := Nat.pow_le_pow_right (by decide) (by omega)
  rw [u64_and_nat x (2 ^ k) hx (by have : (2 : Nat) ^ 63 = 9223372036854775808 := by decide
                                   omega), nat_bit]

theorem fm_bd {eb fb : Nat} (h : Fm eb fb) : 5 ≤ eb ∧ eb ≤ 11 ∧ 7 ≤ fb ∧ fb ≤ 52 ∧ eb + fb ≤ 63 := by
  rcases h with ⟨rfl, rfl⟩ | ⟨rfl, rfl⟩ | ⟨rfl, rfl⟩ | ⟨rfl, rfl⟩ <;> decide

/-- the bits of a float: sign s, exponent field z, fraction f -/
def pack (eb fb s z f : Nat) : Nat := s * 2 ^ (eb + fb) + z * 2 ^ fb + f

section
variable {eb fb s z f : Nat} (hf : Fm eb fb) (hs : s < 2) (hz : z < 2 ^ eb) (hfr : f < 2 ^ fb)

theorem pack_lt (hf : Fm eb fb) (hs : s < 2) (hz : z < 2 ^ eb) (hfr : f < 2 ^ fb) : pack eb fb s z f < 18446744073709551616 := by
  unfold pack
  rcases hf with ⟨rfl, rfl⟩ | ⟨rfl, rfl⟩ | ⟨rfl, rfl⟩ | ⟨rfl, rfl⟩ <;> simp at * <;> omega
theorem pack_exp (hf : Fm eb fb) (hz : z < 2 ^ eb) (hfr : f < 2 ^ fb) : pack eb fb s z f / 2 ^ fb % 2 ^ eb = z := by
  unfold pack
  rcases hf with ⟨rfl, rfl⟩ | ⟨rfl, rfl⟩ | ⟨rfl, rfl⟩ | ⟨rfl, rfl⟩ <;> simp at * <;> omega
theorem pack_frac (hf : Fm eb fb) (hfr : f < 2 ^ fb) : pack eb fb s z f % 2 ^ fb = f := by
  unfold pack
  rcases hf with ⟨rfl, rfl⟩ | ⟨rfl, rfl⟩ | ⟨rfl, rfl⟩ | ⟨rfl, rfl⟩ <;> simp at * <;> omega
theorem pack_sign (hf : Fm eb fb) (hs : s < 2) (hz : z < 2 ^ eb) (hfr : f < 2 ^ fb) : pack eb fb s z f / 2 ^ (eb + fb) % 2 = s := by
  unfold pack
  rcases hf with ⟨rfl, rfl⟩ | ⟨rfl, rfl⟩ | ⟨rfl, rfl⟩ | ⟨rfl, rfl⟩ <;> simp at * <;> omega
end

/-- a number that is not 0: an odd one, doubled t times -/
theorem odd_part (m : Nat) (h0 : m ≠ 0) (h : m < 2 ^ 64) : ∃ q t, m = q * 2 ^ t ∧ q % 2 = 1 ∧ Lib.ctz 64 m = t ∧ t < 64 := by
  obtain ⟨k, hk, hlt⟩ := Lib.ctzFrom_spec 64 m (by omega) h
  refine ⟨2 * k + 1, Lib.ctzFrom 64 m, ?_, by omega, ?_, hlt⟩
  · rw [Nat.mul_comm]; exact hk
  · unfold Lib.ctz; rw [if_neg h0]

theorem bitLen_bounds (x : Nat) (h : x < 2 ^ 64) (h0 : x ≠ 0) : 1 ≤ Lib.bitLen x ∧ 2 ^ (Lib.bitLen x - 1) ≤ x ∧ x < 2 ^ Lib.bitLen x := Lib.bitLenAux_bounds 64 x h h0

theorem pow_lt_of {a b x : Nat} (h1 : 2 ^ a ≤ x) (h2 : x < 2 ^ b) : a < b :=
  (Nat.pow_lt_pow_iff_right (by decide : 1 < 2)).1 (Nat.lt_of_le_of_lt h1 h2)

/-- the length of a number is told by its place between two powers -/
theorem bitLen_of (x n : Nat) (h : x < 2 ^ 64) (h1 : 2 ^ n ≤ x) (h2 : x < 2 ^ (n + 1)) : Lib.bitLen x = n + 1 := by
  have h0 : x ≠ 0 := by have := Nat.two_pow_pos n; omega
  obtain ⟨a, b, c⟩ := bitLen_bounds x h h0
  have := pow_lt_of h1 c
  have := pow_lt_of b h2
  omega
theorem bitLen_mul (q t : Nat) (h : q * 2 ^ t < 2 ^ 64) (h0 : q ≠ 0) : Lib.bitLen (q * 2 ^ t) = Lib.bitLen q + t := by
  have hp := Nat.two_pow_pos t
  have hq : q ≤ q * 2 ^ t := Nat.le_mul_of_pos_right q hp
  obtain ⟨a, b, c⟩ := bitLen_bounds q (by omega) h0
  have e := bitLen_of (q * 2 ^ t) (Lib.bitLen q - 1 + t) h (by rw [Nat.pow_add]; exact Nat.mul_le_mul_right _ b)
    (by rw [show Lib.bitLen q - 1 + t + 1 = Lib.bitLen q + t from by omega, Nat.pow_add]; exact (Nat.mul_lt_mul_right hp).2 c)
  omega

theorem bia_bd {eb fb : Nat} (h : Fm eb fb) : 15 ≤ bia eb ∧ bia eb ≤ 1023 := by
  rcases h with ⟨rfl, rfl⟩ | ⟨rfl, rfl⟩ | ⟨rfl, rfl⟩ | ⟨rfl, rfl⟩ <;> decide
theorem low_bd {eb fb : Nat} (h : Fm eb fb) : -1074 ≤ low eb fb ∧ low eb fb ≤ -24 := by
  rcases h with ⟨rfl, rfl⟩ | ⟨rfl, rfl⟩ | ⟨rfl, rfl⟩ | ⟨rfl, rfl⟩ <;> decide

/-- decompose's magnitude and exponent -/
def man (fb z f : Nat) : Nat := if z = 0 then f else 2 ^ fb + f
def xpo (eb fb z : Nat) : Int := if z = 0 then low eb fb else low eb fb + (z - 1)

section
variable {eb fb s z f : Nat}
theorem dec_exp (hf : Fm eb fb) (hs : s < 2) (hz : z < 2 ^ eb) (hfr : f < 2 ^ fb) :
    bits .and .u64 ((pack eb fb s z f : Nat) / ((2 ^ fb : Nat) : Int)) ((2 ^ eb - 1 : Nat) : Int) = (z : Int) := by
  have hl := pack_lt hf hs hz hfr
  have hb := fm_bd hf
  rw [← Int.natCast_ediv, mask eb _ (by omega) (Nat.lt_of_le_of_lt (Nat.div_le_self _ _) hl), pack_exp hf hz hfr]
theorem dec_frac (hf : Fm eb fb) (hs : s < 2) (hz : z < 2 ^ eb) (hfr : f < 2 ^ fb) :
    bits .and .u64 (pack eb fb s z f : Nat) ((2 ^ fb - 1 : Nat) : Int) = (f : Int) := by
  have hl := pack_lt hf hs hz hfr
  have hb := fm_bd hf
  rw [mask fb _ (by omega) hl, pack_frac hf hfr]
theorem dec_sign (hf : Fm eb fb) (hs : s < 2) (hz : z < 2 ^ eb) (hfr : f < 2 ^ fb) :
    bits .and .u64 (pack eb fb s z f : Nat) ((2 ^ (eb + fb) : Nat) : Int) = (s : Int) * ((2 ^ (eb + fb) : Nat) : Int) := by
  have hl := pack_lt hf hs hz hfr
  have hb := fm_bd hf
  rw [bit (eb + fb) _ (by omega) hl, pack_sign hf hs hz hfr, Int.natCast_mul]
theorem dec_top (hf : Fm eb fb) (hfr : f < 2 ^ fb) : bits .or .u64 (f : Int) ((2 ^ fb : Nat) : Int) = ((2 ^ fb : Nat) : Int) + (f : Int) := by
  have hb := fm_bd hf
  have hp : 2 ^ fb ≤ 2 ^ 52 := Nat.pow_le_pow_right (by decide) (by omega)
  have : (2 : Nat) ^ 52 = 4503599627370496 := by decide
  rw [join' fb f (2 ^ fb) hfr (by simp) (by omega), Int.natCast_add]
end
theorem p64 : (2 : Nat) ^ 64 = 18446744073709551616 := by decide
theorem cast_mul_pow (q t : Nat) : ((q * 2 ^ t : Nat) : Int) = (q : Int) * 2 ^ t := by rw [Int.natCast_mul, Int.natCast_pow]; rfl
theorem div_back (q t : Nat) : ((q * 2 ^ t : Nat) : Int) / 2 ^ t = q := by
  rw [cast_mul_pow]
  exact Int.mul_ediv_cancel _ (by have : (0 : Int) < 2 ^ t := Int.pow_pos (by decide)
                                  omega)
theorem shl_eq (q k : Nat) (c : Int) (hc : c = k) (h : q * 2 ^ k < 18446744073709551616) : IntKind.u64.wrap ((q : Int) * 2 ^ c.toNat) = ((q * 2 ^ k : Nat) : Int) := by
  rw [hc, Int.toNat_natCast, ← cast_mul_pow, IntKind.wrap_u64]; omega

section
variable {eb fb s z f : Nat}
/-- an odd part of n bits, brought to fb + 1 bits -/
theorem full_bd (q n sh : Nat) (hn : Lib.bitLen q = n) (hq : q < 2 ^ 64) (hq0 : q ≠ 0) (hsh : n + sh = fb + 1) : 2 ^ fb ≤ q * 2 ^ sh ∧ q * 2 ^ sh < 2 ^ (fb + 1) := by
  obtain ⟨a, b, c⟩ := bitLen_bounds q hq hq0
  rw [hn] at a b c
  refine ⟨?_, ?_⟩
  · rw [show fb = n - 1 + sh from by omega, Nat.pow_add]; exact Nat.mul_le_mul_right _ b
  · rw [← hsh, Nat.pow_add]; exact (Nat.mul_lt_mul_right (Nat.two_pow_pos sh)).2 c
theorem comp_frac (hf : Fm eb fb) (q n sh : Nat) (hn : Lib.bitLen q = n) (hq : q < 2 ^ 64) (hq0 : q ≠ 0) (hsh : n + sh = fb + 1) :
    bits .and .u64 (IntKind.u64.wrap ((q : Int) * 2 ^ ((fb : Int) - ((n : Int) - 1)).toNat)) ((2 ^ fb - 1 : Nat) : Int) = ((q * 2 ^ sh - 2 ^ fb : Nat) : Int) := by
  obtain ⟨b1, b2⟩ := full_bd q n sh hn hq hq0 hsh
  have hb := fm_bd hf
  have hp : 2 ^ (fb + 1) ≤ 2 ^ 53 := Nat.pow_le_pow_right (by decide) (by omega)
  have e53 : (2 : Nat) ^ 53 = 9007199254740992 := by decide
  rw [shl_eq q sh _ (by omega) (by omega), mask fb _ (by omega) (by omega)]
  rw [Nat.pow_succ] at b2
  congr 1
  rw [Nat.mod_eq_sub_mod b1, Nat.mod_eq_of_lt (by omega)]
theorem frac_lt (q n sh : Nat) (hn : Lib.bitLen q = n) (hq : q < 2 ^ 64) (hq0 : q ≠ 0) (hsh : n + sh = fb + 1) : q * 2 ^ sh - 2 ^ fb < 2 ^ fb := by
  obtain ⟨b1, b2⟩ := full_bd q n sh hn hq hq0 hsh
  rw [Nat.pow_succ] at b2
  omega
theorem comp_join1 (hf : Fm eb fb) (hs : s < 2) (hz : z < 2 ^ eb) :
    bits .or .u64 ((s : Int) * ((2 ^ (eb + fb) : Nat) : Int)) ((z : Int) * ((2 ^ fb : Nat) : Int)) = ((s * 2 ^ (eb + fb) + z * 2 ^ fb : Nat) : Int) := by
  have hl := pack_lt (f := 0) hf hs hz (Nat.two_pow_pos fb)
  unfold pack at hl
  rw [← Int.natCast_mul, ← Int.natCast_mul, join (eb + fb) (z * 2 ^ fb) (s * 2 ^ (eb + fb)) (by rw [Nat.pow_add]; exact (Nat.mul_lt_mul_right (Nat.two_pow_pos fb)).2 hz) (Nat.mul_mod_left _ _) (by omega)]
theorem comp_join (hf : Fm eb fb) (hs : s < 2) (hz : z < 2 ^ eb) (hfr : f < 2 ^ fb) :
    bits .or .u64 (bits .or .u64 ((s : Int) * ((2 ^ (eb + fb) : Nat) : Int)) ((z : Int) * ((2 ^ fb : Nat) : Int))) (f : Int) = (pack eb fb s z f : Nat) := by
  have hl := pack_lt hf hs hz hfr
  unfold pack at *
  rw [comp_join1 hf hs hz, join fb f _ hfr ?_ hl]
  rw [Nat.pow_add, ← Nat.mul_assoc, ← Nat.add_mul]; exact Nat.mul_mod_left _ _
theorem comp_sub (hf : Fm eb fb) (hs : s < 2) (hfr : f < 2 ^ fb) :
    bits .or .u64 ((s : Int) * ((2 ^ (eb + fb) : Nat) : Int)) (f : Int) = (pack eb fb s 0 f : Nat) := by
  have hl := pack_lt (z := 0) hf hs (Nat.two_pow_pos eb) hfr
  unfold pack at *
  have hp : 2 ^ fb ≤ 2 ^ (eb + fb) := Nat.pow_le_pow_right (by decide) (by omega)
  simp only [Nat.zero_mul, Nat.add_zero] at hl ⊢
  rw [← Int.natCast_mul, join (eb + fb) f _ (by omega) (Nat.mul_mod_left _ _) hl]
end
end Go.Proofs.YbulkaqukDoor.Num
