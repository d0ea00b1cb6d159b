/-
  THE PLAIN MATHEMATICS OF 'SameQuestion': no program in sight. Octets as integers 0 .. 255, a question as the list of its octets.
-/
import Derived.WalkKit
import Derived.Laws.BytesArg
namespace Go.Proofs.Qxb6601654a.Sa

/-- 'lower'. -/
def low (c : Int) : Int := if 65 ≤ c ∧ c ≤ 90 then c + 32 else c

/-- What 'SameQuestion' asks of a question of n octets, the list x, and one of m octets, the list y. -/
def Sam (n m : Nat) (x y : List Int) : Prop :=
  n = m ∧ 5 ≤ n ∧ (∀ j, n - 4 ≤ j → j < n → x.getD j 0 = y.getD j 0) ∧ ∀ j, j < n - 4 → low (x.getD j 0) = low (y.getD j 0)

theorem sam_refl (n : Nat) (x : List Int) : Sam n n x x ↔ 5 ≤ n := ⟨fun h => h.2.1, fun h => ⟨rfl, h, fun _ _ _ => rfl, fun _ _ => rfl⟩⟩

theorem Sam.symm {n m : Nat} {x y : List Int} (h : Sam n m x y) : Sam m n y x := by
  obtain ⟨rfl, h1, h2, h3⟩ := h
  exact ⟨rfl, h1, fun j a b => (h2 j a b).symm, fun j a => (h3 j a).symm⟩

theorem Sam.trans {n m l : Nat} {x y z : List Int} (h : Sam n m x y) (k : Sam m l y z) : Sam n l x z := by
  obtain ⟨rfl, h1, h2, h3⟩ := h
  obtain ⟨rfl, _, k2, k3⟩ := k
  exact ⟨rfl, h1, fun j a b => (h2 j a b).trans (k2 j a b), fun j a => (h3 j a).trans (k3 j a)⟩

/-- The last four octets. -/
def tl (x : List Int) (n : Nat) : List Int := [x.getD (n - 4) 0, x.getD (n - 4 + 1) 0, x.getD (n - 4 + 2) 0, x.getD (n - 4 + 3) 0]

theorem tl_get (x : List Int) (n i : Nat) (hi : i < 4) : (tl x n).getD i 0 = x.getD (n - 4 + i) 0 := by
  match i, hi with
  | 0, _ => rfl
  | 1, _ => rfl
  | 2, _ => rfl
  | 3, _ => rfl

theorem byte_inj (a b : Int) (ha : 0 ≤ a ∧ a ≤ 255) (hb : 0 ≤ b ∧ b ≤ 255) (h : UInt8.ofNat a.toNat = UInt8.ofNat b.toNat) : a = b := by
  have h2 := congrArg UInt8.toNat h
  rw [UInt8.toNat_ofNat', UInt8.toNat_ofNat'] at h2
  omega

/-- 'string(a[name:]) == string(b[name:])'. -/
theorem tail_eq (x y : List Int) (n : Nat) (hn : 5 ≤ n) (hx : ∀ j, j < n → 0 ≤ x.getD j 0 ∧ x.getD j 0 ≤ 255) (hy : ∀ j, j < n → 0 ≤ y.getD j 0 ∧ y.getD j 0 ≤ 255) :
    ((strOfNums (tl x n)).toList == (strOfNums (tl y n)).toList) = true ↔ ∀ j, n - 4 ≤ j → j < n → x.getD j 0 = y.getD j 0 := by
  rw [ByteArray.toList_eq, ByteArray.toList_eq, strOfNums_data, strOfNums_data, beq_iff_eq]
  constructor
  · intro h
    simp only [tl, List.map_cons, List.map_nil, List.cons.injEq, and_true] at h
    obtain ⟨h0, h1, h2, h3⟩ := h
    have e0 := byte_inj _ _ (hx _ (by omega)) (hy _ (by omega)) h0
    have e1 := byte_inj _ _ (hx _ (by omega)) (hy _ (by omega)) h1
    have e2 := byte_inj _ _ (hx _ (by omega)) (hy _ (by omega)) h2
    have e3 := byte_inj _ _ (hx _ (by omega)) (hy _ (by omega)) h3
    intro j ha hb
    have hj : j = n - 4 ∨ j = n - 4 + 1 ∨ j = n - 4 + 2 ∨ j = n - 4 + 3 := by omega
    rcases hj with rfl | rfl | rfl | rfl
    · exact e0
    · exact e1
    · exact e2
    · exact e3
  · intro h
    unfold tl
    rw [h (n - 4) (by omega) (by omega), h (n - 4 + 1) (by omega) (by omega), h (n - 4 + 2) (by omega) (by omega), h (n - 4 + 3) (by omega) (by omega)]

/-- 'zzSameCaseless'. -/
def sc (x y : Int) : Bool := (x == y) || ((bits BinOp.xor IntKind.u8 x y == 32) && (decide (65 ≤ bits BinOp.andNot IntKind.u8 x 32) && decide (bits BinOp.andNot IntKind.u8 x 32 ≤ 90)))

theorem xor_u8 (a b : Nat) (ha : a < 256) (hb : b < 256) : bits .xor .u8 (a : Int) (b : Int) = ((a ^^^ b : Nat) : Int) := by
  have hx : a ^^^ b < 2 ^ 8 := Nat.xor_lt_two_pow (by omega) (by omega)
  have h1 : (BitVec.ofInt 8 (a : Int)).toNat = a := by
    rw [BitVec.ofInt_natCast, BitVec.toNat_ofNat]; exact Nat.mod_eq_of_lt (by omega)
  have h2 : (BitVec.ofInt 8 (b : Int)).toNat = b := by
    rw [BitVec.ofInt_natCast, BitVec.toNat_ofNat]; exact Nat.mod_eq_of_lt (by omega)
  show IntKind.u8.wrap ((BitVec.ofInt 8 (a : Int) ^^^ BitVec.ofInt 8 (b : Int)).toNat : Int) = _
  rw [BitVec.toNat_xor, h1, h2, IntKind.wrap_u8']
  omega

theorem xor_back (a b : Nat) (h : a ^^^ b = 32) : b = a ^^^ 32 := by
  rw [← h, ← Nat.xor_assoc, Nat.xor_self, Nat.zero_xor]

/-- Each octet that is a letter: the octet that differs in bit 0x20 alone is the other case. -/
theorem letter_all : ∀ x : Fin 256, 65 ≤ bits BinOp.andNot IntKind.u8 (x.val : Int) 32 → bits BinOp.andNot IntKind.u8 (x.val : Int) 32 ≤ 90 → low (x.val : Int) = low ((x.val ^^^ 32 : Nat) : Int) := by decide +kernel
theorem upper_all : ∀ x : Fin 256, 65 ≤ x.val → x.val ≤ 90 → x.val ^^^ (x.val + 32) = 32 ∧ (x.val + 32) ^^^ x.val = 32 ∧ 65 ≤ bits BinOp.andNot IntKind.u8 (x.val : Int) 32 ∧ bits BinOp.andNot IntKind.u8 (x.val : Int) 32 ≤ 90 ∧
    65 ≤ bits BinOp.andNot IntKind.u8 ((x.val + 32 : Nat) : Int) 32 ∧ bits BinOp.andNot IntKind.u8 ((x.val + 32 : Nat) : Int) 32 ≤ 90 := by decide +kernel

theorem sc_nat (x y : Nat) (hx : x < 256) (hy : y < 256) : sc (x : Int) (y : Int) = true ↔ low (x : Int) = low (y : Int) := by
  unfold sc
  rw [xor_u8 x y hx hy, Bool.or_eq_true, Bool.and_eq_true, Bool.and_eq_true, beq_iff_eq, beq_iff_eq, decide_eq_true_iff, decide_eq_true_iff]
  constructor
  · rintro (h | ⟨h1, h2, h3⟩)
    · rw [h]
    · have e := xor_back x y (by omega)
      subst e
      exact letter_all ⟨x, hx⟩ h2 h3
  · intro h
    by_cases he : (x : Int) = y
    · exact Or.inl he
    · refine Or.inr ?_
      unfold low at h
      by_cases hu : 65 ≤ (x : Int) ∧ (x : Int) ≤ 90
      · rw [if_pos hu] at h
        have hv : ¬ (65 ≤ (y : Int) ∧ (y : Int) ≤ 90) := fun hv => by rw [if_pos hv] at h; omega
        rw [if_neg hv] at h
        obtain ⟨a1, _, a3, a4, _⟩ := upper_all ⟨x, hx⟩ (show 65 ≤ x by omega) (show x ≤ 90 by omega)
        have hy' : y = x + 32 := by omega
        subst hy'
        exact ⟨congrArg Int.ofNat a1, a3, a4⟩
      · rw [if_neg hu] at h
        by_cases hv : 65 ≤ (y : Int) ∧ (y : Int) ≤ 90
        · rw [if_pos hv] at h
          obtain ⟨_, a2, _, _, a5, a6⟩ := upper_all ⟨y, hy⟩ (show 65 ≤ y by omega) (show y ≤ 90 by omega)
          have hx' : x = y + 32 := by omega
          subst hx'
          exact ⟨congrArg Int.ofNat a2, a5, a6⟩
        · rw [if_neg hv] at h
          exact absurd h he

theorem sc_iff (x y : Int) (hx : 0 ≤ x ∧ x ≤ 255) (hy : 0 ≤ y ∧ y ≤ 255) : sc x y = true ↔ low x = low y := by
  have h := sc_nat x.toNat y.toNat (by omega) (by omega)
  rw [Int.toNat_of_nonneg hx.1, Int.toNat_of_nonneg hy.1] at h
  exact h
end Go.Proofs.Qxb6601654a.Sa
