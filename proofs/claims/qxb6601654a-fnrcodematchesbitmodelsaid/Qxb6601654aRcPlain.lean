/-
  THE PLAIN MATHEMATICS OF 'Rcode': no program in sight: an OR of octets shifted, and the sum of its bits.
-/
import Derived.WalkKit
namespace Go.Proofs.Qxb6601654a

/-- A record as numbers: type, kind, TTL, start, data, end. -/
structure R6 where
  t : Int
  c : Int
  l : Int
  s : Int
  d : Int
  e : Int

namespace Rp

/-- What a record adds: its TTL's high octet, four bits up. -/
def ext (r : R6) : Nat := r.l.toNat / 2 ^ 24 * 2 ^ 4

/-- 'Rcode', when k records from place p on have been looked at. -/
def acc (fl : Nat) (R : Nat → R6) (p : Nat) : Nat → Nat
  | 0 => fl % 2 ^ 4
  | k + 1 => if (R (p + k)).t = 41 then acc fl R p k ||| ext (R (p + k)) else acc fl R p k

/-- Has one of k records from place p on, an OPT, bit 20+b of its TTL set? -/
def hit (R : Nat → R6) (p b : Nat) : Nat → Bool
  | 0 => false
  | k + 1 => hit R p b k || (decide ((R (p + k)).t = 41) && (R (p + k)).l.toNat.testBit (20 + b))

/-- The model's bit b. -/
def setB (fl : Nat) (R : Nat → R6) (p k b : Nat) : Bool := if b < 4 then fl.testBit b else hit R p b k

/-- The model's sum of the bits below b. -/
def sumTo (f : Nat → Bool) : Nat → Nat
  | 0 => 0
  | b + 1 => sumTo f b + if f b = true then 2 ^ b else 0

theorem sumTo_lt (f : Nat → Bool) (b : Nat) : sumTo f b < 2 ^ b := by
  induction b with
  | zero => simp [sumTo]
  | succ b ih => simp only [sumTo, Nat.pow_succ]; split <;> omega

theorem ext_lt (r : R6) (h : r.l ≤ 4294967295) : ext r < 2 ^ 12 := by
  unfold ext
  omega

theorem ext_bit (r : R6) (b : Nat) : (ext r).testBit b = (decide (4 ≤ b) && r.l.toNat.testBit (b - 4 + 24)) := by
  unfold ext
  rw [Nat.testBit_mul_two_pow, Nat.testBit_div_two_pow]

theorem acc_lt (fl : Nat) (R : Nat → R6) (p k : Nat) (hR : ∀ i, (R i).l ≤ 4294967295) : acc fl R p k < 2 ^ 12 := by
  induction k with
  | zero => simp only [acc]; omega
  | succ k ih =>
    simp only [acc]
    split
    · exact Nat.or_lt_two_pow ih (ext_lt _ (hR _))
    · exact ih

theorem acc_bit (fl : Nat) (R : Nat → R6) (p k b : Nat) : (acc fl R p k).testBit b = setB fl R p k b := by
  induction k with
  | zero =>
    simp only [acc, setB, hit]
    rw [Nat.testBit_mod_two_pow]
    by_cases h : b < 4 <;> simp [h]
  | succ k ih =>
    simp only [acc]
    by_cases ht : (R (p + k)).t = 41
    · rw [if_pos ht, Nat.testBit_or, ih, ext_bit]
      unfold setB
      by_cases h : b < 4
      · rw [if_pos h, if_pos h]
        simp [show ¬ 4 ≤ b by omega]
      · rw [if_neg h, if_neg h]
        simp only [hit]
        rw [show b - 4 + 24 = 20 + b by omega]
        simp [ht, show 4 ≤ b by omega]
    · rw [if_neg ht, ih]
      unfold setB
      by_cases h : b < 4
      · rw [if_pos h, if_pos h]
      · rw [if_neg h, if_neg h]
        simp [hit, ht]

theorem sum_bits (x b : Nat) : sumTo x.testBit b = x % 2 ^ b := by
  induction b with
  | zero => simp [sumTo, Nat.mod_one]
  | succ b ih =>
    simp only [sumTo]
    rw [ih, Nat.testBit_eq_decide_div_mod_eq, Nat.mod_pow_succ]
    have h2 : x / 2 ^ b % 2 = 0 ∨ x / 2 ^ b % 2 = 1 := by omega
    rcases h2 with h | h <;> simp [h]

theorem sum_congr (f g : Nat → Bool) (b : Nat) (h : ∀ i, i < b → f i = g i) : sumTo f b = sumTo g b := by
  induction b with
  | zero => rfl
  | succ b ih => simp only [sumTo]; rw [ih (fun i hi => h i (by omega)), h b (by omega)]

/-- THE LAW: the OR is the sum of its bits. -/
theorem law (fl : Nat) (R : Nat → R6) (p k : Nat) (hR : ∀ i, (R i).l ≤ 4294967295) : acc fl R p k = sumTo (setB fl R p k) 12 := by
  have h := sum_bits (acc fl R p k) 12
  rw [Nat.mod_eq_of_lt (acc_lt fl R p k hR)] at h
  rw [← h]
  exact sum_congr _ _ 12 (fun i _ => acc_bit fl R p k i)

/-! ### How the walk spells it -/

theorem and15 (fl : Nat) (h : fl < 65536) : bits BinOp.and IntKind.u16 (fl : Int) 15 = ((fl % 2 ^ 4 : Nat) : Int) := by
  have hx : fl &&& 15 < 2 ^ 16 := Nat.and_lt_two_pow _ (by omega)
  have h1 : (BitVec.ofInt 16 (fl : Int)).toNat = fl := by
    rw [BitVec.ofInt_natCast, BitVec.toNat_ofNat]; exact Nat.mod_eq_of_lt (by omega)
  show IntKind.u16.wrap ((BitVec.ofInt 16 (fl : Int) &&& BitVec.ofInt 16 15).toNat : Int) = _
  rw [BitVec.toNat_and, h1, IntKind.wrap_u16]
  have h3 : fl &&& (BitVec.ofInt 16 15).toNat = fl % 2 ^ 4 := Nat.and_two_pow_sub_one_eq_mod fl 4
  rw [h3]
  omega

theorem or_i64 (a b : Nat) (ha : a < 4096) (hb : b < 4096) : bits BinOp.or IntKind.i64 (a : Int) (b : Int) = ((a ||| b : Nat) : Int) := by
  have hx : a ||| b < 2 ^ 12 := Nat.or_lt_two_pow (by omega) (by omega)
  have h1 : (BitVec.ofInt 64 (a : Int)).toNat = a := by
    rw [BitVec.ofInt_natCast, BitVec.toNat_ofNat]; exact Nat.mod_eq_of_lt (by omega)
  have h2 : (BitVec.ofInt 64 (b : Int)).toNat = b := by
    rw [BitVec.ofInt_natCast, BitVec.toNat_ofNat]; exact Nat.mod_eq_of_lt (by omega)
  show IntKind.i64.wrap ((BitVec.ofInt 64 (a : Int) ||| BitVec.ofInt 64 (b : Int)).toNat : Int) = _
  rw [BitVec.toNat_or, h1, h2, IntKind.wrap_i64]
  omega

theorem and1_u16 (x : Nat) (h : x < 65536) : bits BinOp.and IntKind.u16 (x : Int) 1 = ((x % 2 : Nat) : Int) := by
  have h1 : (BitVec.ofInt 16 (x : Int)).toNat = x := by
    rw [BitVec.ofInt_natCast, BitVec.toNat_ofNat]; exact Nat.mod_eq_of_lt (by omega)
  show IntKind.u16.wrap ((BitVec.ofInt 16 (x : Int) &&& BitVec.ofInt 16 1).toNat : Int) = _
  rw [BitVec.toNat_and, h1, IntKind.wrap_u16]
  have h3 : x &&& (BitVec.ofInt 16 1).toNat = x % 2 := Nat.and_two_pow_sub_one_eq_mod x 1
  rw [h3]
  omega

theorem and1_u32 (x : Nat) (h : x < 4294967296) : bits BinOp.and IntKind.u32 (x : Int) 1 = ((x % 2 : Nat) : Int) := by
  have h1 : (BitVec.ofInt 32 (x : Int)).toNat = x := by
    rw [BitVec.ofInt_natCast, BitVec.toNat_ofNat]; exact Nat.mod_eq_of_lt (by omega)
  show IntKind.u32.wrap ((BitVec.ofInt 32 (x : Int) &&& BitVec.ofInt 32 1).toNat : Int) = _
  rw [BitVec.toNat_and, h1, IntKind.wrap_u32']
  have h3 : x &&& (BitVec.ofInt 32 1).toNat = x % 2 := Nat.and_two_pow_sub_one_eq_mod x 1
  rw [h3]
  omega

/-- '(flags>>uint(bit))&1 == 1'. -/
theorem bit_u16 (fl b : Nat) (h : fl < 65536) : (bits BinOp.and IntKind.u16 ((fl : Int) / 2 ^ b) 1 == 1) = fl.testBit b := by
  have e : ((fl : Int) / 2 ^ b) = ((fl / 2 ^ b : Nat) : Int) := by simp
  rw [e, and1_u16 _ (Nat.lt_of_le_of_lt (Nat.div_le_self _ _) h), Nat.testBit_eq_decide_div_mod_eq, Bool.eq_iff_iff, beq_iff_eq, decide_eq_true_iff]
  omega

theorem bit_u32 (l b : Nat) (h : l < 4294967296) : (bits BinOp.and IntKind.u32 ((l : Int) / 2 ^ b) 1 == 1) = l.testBit b := by
  have e : ((l : Int) / 2 ^ b) = ((l / 2 ^ b : Nat) : Int) := by simp
  rw [e, and1_u32 _ (Nat.lt_of_le_of_lt (Nat.div_le_self _ _) h), Nat.testBit_eq_decide_div_mod_eq, Bool.eq_iff_iff, beq_iff_eq, decide_eq_true_iff]
  omega
end Rp
end Go.Proofs.Qxb6601654a
