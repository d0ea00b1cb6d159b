/-
  THE WALKS OF 'layoutOf' (22), 'ZZLayoutOf' (8), 'zzRdataFields' (9), 'zzFieldWidth' (10) AND OF THE LAW 'FnLayoutOfMatchesRFCFormats' (3), with the few plain facts that they need.
-/
import Derived.Test.Qxb6601654aRows
import Derived.WalkKit
import Derived.ProofKit
import Derived.Below
import Derived.Deep.DeepCutAuto
import Derived.Deep.CutBlock
import Derived.Deep.Light
import Derived.Deep.QuietTactic
import Derived.BigQuiet
import Derived.WalkSpells
import Derived.WalkSmall
namespace Go.Proofs.Qxb6601654a
open Go.RowKit

theorem ret_k {k : IntKind} {a b : Int} (h : a = b) : Ending.returned (.int k a) = .returned (.int k b) := by rw [h]

namespace La
/-- 'zzFieldWidth'. -/
def wid (c : Int) : Int := if c = 83 then 2 else if c = 76 ∨ c = 52 then 4 else if c = 81 then 16 else 0
theorem wid_range (c : Int) : 0 ≤ wid c ∧ wid c ≤ 16 := by unfold wid; (repeat' split) <;> omega
end La

theorem wid_any (c : Int) (w : World) : Calls Try.prog 10 #[.int .u8 c] w fun e w' => e = .returned (.int .i64 (La.wid c)) ∧ w' = w := by
  have HW : Hid (La.wid c = if c = 83 then 2 else if c = 76 ∨ c = 52 then 4 else if c = 81 then 16 else 0) := rfl
  generalize La.wid c = y at *
  by_cases h1 : c = 83
  · have e : y = 2 := by rw [HW.out, if_pos h1]
    subst e; subst h1
    clear HW
    go_enter Try.func10, Try.ntmps10
    go_wp2
    go_ret
    exact ⟨rfl, rfl⟩
  · have b1 : (c == 83) = false := by simp [h1]
    by_cases h2 : c = 76
    · have e : y = 4 := by rw [HW.out, if_neg h1, if_pos (Or.inl h2)]
      subst e; subst h2
      clear HW
      go_enter Try.func10, Try.ntmps10
      go_wp2
      go_ret
      exact ⟨rfl, rfl⟩
    · have b2 : (c == 76) = false := by simp [h2]
      by_cases h3 : c = 52
      · have e : y = 4 := by rw [HW.out, if_neg h1, if_pos (Or.inr h3)]
        subst e; subst h3
        clear HW
        go_enter Try.func10, Try.ntmps10
        go_wp2
        go_ret
        exact ⟨rfl, rfl⟩
      · have b3 : (c == 52) = false := by simp [h3]
        by_cases h4 : c = 81
        · have e : y = 16 := by rw [HW.out, if_neg h1, if_neg (by omega), if_pos h4]
          subst e; subst h4
          clear HW
          go_enter Try.func10, Try.ntmps10
          go_wp2
          go_ret
          exact ⟨rfl, rfl⟩
        · have b4 : (c == 81) = false := by simp [h4]
          have e : y = 0 := by rw [HW.out, if_neg h1, if_neg (by omega), if_neg h4]
          subst e
          clear HW
          go_enter Try.func10, Try.ntmps10
          go_wp2
          go_ret
          exact ⟨rfl, rfl⟩

theorem layoutOf_1 (w : World) : Calls Try.prog 22 #[.int .u16 1] w fun e w' => e = .returned (.tuple #[.agg #[.int .i64 4, .int .i64 0, .int .i64 0, .bool false], .bool true]) ∧ Below w.heap.size w w' := by
  go_enter Try.func22, Try.ntmps22
  go_wp2
  exact bodyPost_ret (v := .tuple #[.agg #[.int .i64 4, .int .i64 0, .int .i64 0, .bool false], .bool true]) (by simp [results, Try.results22, go_sem]) rfl ⟨rfl, (Below.refl _ _).alloc (Nat.le_refl _) _⟩

theorem layoutOf_28 (w : World) : Calls Try.prog 22 #[.int .u16 28] w fun e w' => e = .returned (.tuple #[.agg #[.int .i64 16, .int .i64 0, .int .i64 0, .bool false], .bool true]) ∧ Below w.heap.size w w' := by
  go_enter Try.func22, Try.ntmps22
  go_wp2
  exact bodyPost_ret (v := .tuple #[.agg #[.int .i64 16, .int .i64 0, .int .i64 0, .bool false], .bool true]) (by simp [results, Try.results22, go_sem]) rfl ⟨rfl, (Below.refl _ _).alloc (Nat.le_refl _) _⟩

theorem layoutOf_2 (w : World) : Calls Try.prog 22 #[.int .u16 2] w fun e w' => e = .returned (.tuple #[.agg #[.int .i64 0, .int .i64 1, .int .i64 0, .bool false], .bool true]) ∧ Below w.heap.size w w' := by
  go_enter Try.func22, Try.ntmps22
  go_wp2
  exact bodyPost_ret (v := .tuple #[.agg #[.int .i64 0, .int .i64 1, .int .i64 0, .bool false], .bool true]) (by simp [results, Try.results22, go_sem]) rfl ⟨rfl, (Below.refl _ _).alloc (Nat.le_refl _) _⟩

theorem layoutOf_5 (w : World) : Calls Try.prog 22 #[.int .u16 5] w fun e w' => e = .returned (.tuple #[.agg #[.int .i64 0, .int .i64 1, .int .i64 0, .bool false], .bool true]) ∧ Below w.heap.size w w' := by
  go_enter Try.func22, Try.ntmps22
  go_wp2
  exact bodyPost_ret (v := .tuple #[.agg #[.int .i64 0, .int .i64 1, .int .i64 0, .bool false], .bool true]) (by simp [results, Try.results22, go_sem]) rfl ⟨rfl, (Below.refl _ _).alloc (Nat.le_refl _) _⟩

theorem layoutOf_12 (w : World) : Calls Try.prog 22 #[.int .u16 12] w fun e w' => e = .returned (.tuple #[.agg #[.int .i64 0, .int .i64 1, .int .i64 0, .bool false], .bool true]) ∧ Below w.heap.size w w' := by
  go_enter Try.func22, Try.ntmps22
  go_wp2
  exact bodyPost_ret (v := .tuple #[.agg #[.int .i64 0, .int .i64 1, .int .i64 0, .bool false], .bool true]) (by simp [results, Try.results22, go_sem]) rfl ⟨rfl, (Below.refl _ _).alloc (Nat.le_refl _) _⟩

theorem layoutOf_15 (w : World) : Calls Try.prog 22 #[.int .u16 15] w fun e w' => e = .returned (.tuple #[.agg #[.int .i64 2, .int .i64 1, .int .i64 0, .bool false], .bool true]) ∧ Below w.heap.size w w' := by
  go_enter Try.func22, Try.ntmps22
  go_wp2
  exact bodyPost_ret (v := .tuple #[.agg #[.int .i64 2, .int .i64 1, .int .i64 0, .bool false], .bool true]) (by simp [results, Try.results22, go_sem]) rfl ⟨rfl, (Below.refl _ _).alloc (Nat.le_refl _) _⟩

theorem layoutOf_6 (w : World) : Calls Try.prog 22 #[.int .u16 6] w fun e w' => e = .returned (.tuple #[.agg #[.int .i64 0, .int .i64 2, .int .i64 20, .bool false], .bool true]) ∧ Below w.heap.size w w' := by
  go_enter Try.func22, Try.ntmps22
  go_wp2
  exact bodyPost_ret (v := .tuple #[.agg #[.int .i64 0, .int .i64 2, .int .i64 20, .bool false], .bool true]) (by simp [results, Try.results22, go_sem]) rfl ⟨rfl, (Below.refl _ _).alloc (Nat.le_refl _) _⟩

theorem layoutOf_41 (w : World) : Calls Try.prog 22 #[.int .u16 41] w fun e w' => e = .returned (.tuple #[.agg #[.int .i64 0, .int .i64 0, .int .i64 0, .bool true], .bool true]) ∧ Below w.heap.size w w' := by
  go_enter Try.func22, Try.ntmps22
  go_wp2
  exact bodyPost_ret (v := .tuple #[.agg #[.int .i64 0, .int .i64 0, .int .i64 0, .bool true], .bool true]) (by simp [results, Try.results22, go_sem]) rfl ⟨rfl, (Below.refl _ _).alloc (Nat.le_refl _) _⟩

theorem layoutOf_else (t : Int) (w : World) (h1 : (t == 1) = false) (h28 : (t == 28) = false) (h2 : (t == 2) = false) (h5 : (t == 5) = false) (h12 : (t == 12) = false) (h15 : (t == 15) = false) (h6 : (t == 6) = false) (h41 : (t == 41) = false) : Calls Try.prog 22 #[.int .u16 t] w fun e w' => e = .returned (.tuple #[.agg #[.int .i64 0, .int .i64 0, .int .i64 0, .bool false], .bool false]) ∧ Below w.heap.size w w' := by
  go_enter Try.func22, Try.ntmps22
  go_wp2
  exact bodyPost_ret (v := .tuple #[.agg #[.int .i64 0, .int .i64 0, .int .i64 0, .bool false], .bool false]) (by simp [results, Try.results22, go_sem]) rfl ⟨rfl, (Below.refl _ _).alloc (Nat.le_refl _) _⟩

theorem zzlayout_of (t b n a : Int) (o ok : Bool) (w : World)
    (h22 : ∀ w, Calls Try.prog 22 #[.int .u16 t] w fun e w' => e = .returned (.tuple #[.agg #[.int .i64 b, .int .i64 n, .int .i64 a, .bool o], .bool ok]) ∧ Below w.heap.size w w') :
    Calls Try.prog 8 #[.int .u16 t] w fun e w' => e = .returned (.tuple #[.int .i64 b, .int .i64 n, .int .i64 a, .bool o, .bool ok]) ∧ Below w.heap.size w w' := by
  have H : Hid (∀ w, Calls Try.prog 22 #[.int .u16 t] w fun e w' => e = .returned (.tuple #[.agg #[.int .i64 b, .int .i64 n, .int .i64 a, .bool o], .bool ok]) ∧ Below w.heap.size w w') := h22
  clear h22
  go_enter Try.func8, Try.ntmps8
  go_wp2_with fail
  refine (H.out _).mono ?_
  rintro e w1 ⟨rfl, hb⟩
  have c0 : w1.cell? ⟨w.heap.size, 0, none⟩ = some (.int .i64 0) := (hb.cell (by simp)).trans (by simp)
  have c1 : w1.cell? ⟨w.heap.size, 1, none⟩ = some (.int .i64 0) := (hb.cell (by simp)).trans (by simp)
  have c2 : w1.cell? ⟨w.heap.size, 2, none⟩ = some (.int .i64 0) := (hb.cell (by simp)).trans (by simp)
  have c3 : w1.cell? ⟨w.heap.size, 3, none⟩ = some (.bool false) := (hb.cell (by simp)).trans (by simp)
  have f0 : w1.frozen? ⟨w.heap.size, 0, none⟩ = false := (hb.frozen (by simp)).trans (by simp)
  have f1 : w1.frozen? ⟨w.heap.size, 1, none⟩ = false := (hb.frozen (by simp)).trans (by simp)
  have f2 : w1.frozen? ⟨w.heap.size, 2, none⟩ = false := (hb.frozen (by simp)).trans (by simp)
  have f3 : w1.frozen? ⟨w.heap.size, 3, none⟩ = false := (hb.frozen (by simp)).trans (by simp)
  have hz : w.heap.size < w1.heap.size := by have := hb.size; simp at this; omega
  have HB : Hid (Below w.heap.size w w1) := ((Below.refl _ _).alloc (Nat.le_refl _) _).trans (hb.mono (by simp))
  clear hb
  go_wp2_with fail
  go_quiet (fail)
  go_wp2_with fail
  exact bodyPost_ret (v := .tuple #[.int .i64 b, .int .i64 n, .int .i64 a, .bool o, .bool ok]) (by simp [results, Try.results8, go_sem]) rfl
    ⟨rfl, below_drewN ((((HB.out.setCell (Nat.le_refl _) _).setCell (Nat.le_refl _) _).setCell (Nat.le_refl _) _).setCell (Nat.le_refl _) _) _⟩
theorem fields_1 (w : World) : Calls Try.prog 9 #[.int .u16 1] w fun e w' => e = .returned (.tuple #[.string { data := #[52] }, .bool true]) ∧ w' = w := by
  go_enter Try.func9, Try.ntmps9
  go_wp2
  go_ret2
  exact ⟨rfl, rfl⟩

theorem fields_2 (w : World) : Calls Try.prog 9 #[.int .u16 2] w fun e w' => e = .returned (.tuple #[.string { data := #[78] }, .bool true]) ∧ w' = w := by
  go_enter Try.func9, Try.ntmps9
  go_wp2
  go_ret2
  exact ⟨rfl, rfl⟩

theorem fields_5 (w : World) : Calls Try.prog 9 #[.int .u16 5] w fun e w' => e = .returned (.tuple #[.string { data := #[78] }, .bool true]) ∧ w' = w := by
  go_enter Try.func9, Try.ntmps9
  go_wp2
  go_ret2
  exact ⟨rfl, rfl⟩

theorem fields_6 (w : World) : Calls Try.prog 9 #[.int .u16 6] w fun e w' => e = .returned (.tuple #[.string { data := #[78, 78, 76, 76, 76, 76, 76] }, .bool true]) ∧ w' = w := by
  go_enter Try.func9, Try.ntmps9
  go_wp2
  go_ret2
  exact ⟨rfl, rfl⟩

theorem fields_12 (w : World) : Calls Try.prog 9 #[.int .u16 12] w fun e w' => e = .returned (.tuple #[.string { data := #[78] }, .bool true]) ∧ w' = w := by
  go_enter Try.func9, Try.ntmps9
  go_wp2
  go_ret2
  exact ⟨rfl, rfl⟩

theorem fields_15 (w : World) : Calls Try.prog 9 #[.int .u16 15] w fun e w' => e = .returned (.tuple #[.string { data := #[83, 78] }, .bool true]) ∧ w' = w := by
  go_enter Try.func9, Try.ntmps9
  go_wp2
  go_ret2
  exact ⟨rfl, rfl⟩

theorem fields_28 (w : World) : Calls Try.prog 9 #[.int .u16 28] w fun e w' => e = .returned (.tuple #[.string { data := #[81] }, .bool true]) ∧ w' = w := by
  go_enter Try.func9, Try.ntmps9
  go_wp2
  go_ret2
  exact ⟨rfl, rfl⟩

theorem fields_41 (w : World) : Calls Try.prog 9 #[.int .u16 41] w fun e w' => e = .returned (.tuple #[.string { data := #[42] }, .bool true]) ∧ w' = w := by
  go_enter Try.func9, Try.ntmps9
  go_wp2
  go_ret2
  exact ⟨rfl, rfl⟩

theorem fields_else (t : Int) (w : World) (h1 : (t == 1) = false) (h2 : (t == 2) = false) (h5 : (t == 5) = false) (h6 : (t == 6) = false) (h12 : (t == 12) = false) (h15 : (t == 15) = false) (h28 : (t == 28) = false) (h41 : (t == 41) = false) : Calls Try.prog 9 #[.int .u16 t] w fun e w' => e = .returned (.tuple #[.string { data := #[] }, .bool false]) ∧ w' = w := by
  go_enter Try.func9, Try.ntmps9
  go_wp2
  go_ret2
  exact ⟨rfl, rfl⟩

namespace La
/-- What the loop over the field list has gathered: octets before, names, octets after. -/
def accTo (L : List Int) : Nat → Int × Int × Int
  | 0 => (0, 0, 0)
  | k + 1 =>
    let (b, n, a) := accTo L k
    let c := L.getD k 0
    if c = 78 then (b, n + 1, a) else if n = 0 then (b + wid c, n, a) else (b, n, a + wid c)
theorem accTo_range (L : List Int) (k : Nat) : 0 ≤ (accTo L k).1 ∧ (accTo L k).1 ≤ 16 * k ∧ 0 ≤ (accTo L k).2.1 ∧ (accTo L k).2.1 ≤ k ∧ 0 ≤ (accTo L k).2.2 ∧ (accTo L k).2.2 ≤ 16 * k := by
  induction k with
  | zero => simp [accTo]
  | succ k ih =>
    have hw := wid_range (L.getD k 0)
    simp only [accTo]
    generalize accTo L k = p at ih
    obtain ⟨b, n, a⟩ := p
    simp only at ih
    dsimp only
    (repeat' split) <;> dsimp only <;> omega

def bytes (s : ByteArray) : List Int := s.data.toList.map fun b => (b.toNat : Int)
theorem bytes_get (s : ByteArray) (k : Nat) (h : k < s.size) : (bytes s).getD k 0 = (s[k].toNat : Int) := by
  have h' : k < s.data.size := h
  rw [bytes, List.getD_eq_getElem?_getD, List.getElem?_map, Array.getElem?_toList, Array.getElem?_eq_getElem h']
  rfl
end La

set_option maxRecDepth 100000 in
set_option maxHeartbeats 1000000 in
/-- THE LAW AT A TYPE WHOSE FIELD LIST IS KNOWN FIELD BY FIELD: whatever the list (of at most seven fields). -/
theorem layout_known (t b n a : Int) (s : ByteArray) (w : World) (hs : s.size ≤ 7) (hstar : (s.toList == [42]) = false) (hacc : La.accTo (La.bytes s) s.size = (b, n, a))
    (h8 : ∀ w, Calls Try.prog 8 #[.int .u16 t] w fun e w' => e = .returned (.tuple #[.int .i64 b, .int .i64 n, .int .i64 a, .bool false, .bool true]) ∧ Below w.heap.size w w')
    (h9 : ∀ w, Calls Try.prog 9 #[.int .u16 t] w fun e w' => e = .returned (.tuple #[.string s, .bool true]) ∧ w' = w) :
    Calls Try.prog 3 #[.int .u16 t] w fun e w' => e = .returned (.bool true) ∧ Below w.heap.size w w' := by
  have H8 : Hid (∀ w, Calls Try.prog 8 #[.int .u16 t] w fun e w' => e = .returned (.tuple #[.int .i64 b, .int .i64 n, .int .i64 a, .bool false, .bool true]) ∧ Below w.heap.size w w') := h8
  have H9 : Hid (∀ w, Calls Try.prog 9 #[.int .u16 t] w fun e w' => e = .returned (.tuple #[.string s, .bool true]) ∧ w' = w) := h9
  have HA : Hid (La.accTo (La.bytes s) s.size = (b, n, a)) := hacc
  clear h8 h9 hacc
  go_enter Try.func3, Try.ntmps3
  go_wp2_with fail
  refine (H8.out _).mono ?_
  rintro e w1 ⟨rfl, hbel⟩
  go_wp2_with fail
  refine (H9.out _).mono ?_
  rintro e w2 ⟨rfl, hw2⟩
  obtain rfl : w1 = w2 := hw2.symm
  go_wp2_with fail
  go_loopg [10, 11, 12, 13] s.size (fun g wb wn wa i wr => wr = w1 ∧ ∃ (k : Nat) (B N A : Int), k + g = s.size ∧ i = .int .i64 k ∧ wb = .int .i64 B ∧ wn = .int .i64 N ∧ wa = .int .i64 A ∧ Hid (La.accTo (La.bytes s) k = (B, N, A)))
  case atStart => exact ⟨rfl, 0, 0, 0, 0, by omega, rfl, rfl, rfl, rfl, rfl⟩
  case round =>
    obtain ⟨hwr, k, B, N, A, hkg, rfl, rfl, rfl, rfl, HK⟩ := hrel
    obtain rfl : w1 = wr := hwr.symm
    have hrg := La.accTo_range (La.bytes s) k
    rw [HK.out] at hrg
    obtain ⟨r1, r2, r3, r4, r5, r6⟩ := hrg
    simp only at r1 r2 r3 r4 r5 r6
    by_cases hk : k < s.size
    · have HC : Hid ((La.bytes s).getD k 0 = (s[k].toNat : Int)) := La.bytes_get s k hk
      have hwd := La.wid_range (s[k].toNat : Int)
      by_cases h78 : (s[k].toNat : Int) = 78
      · have hb : ((s[k].toNat : Int) == 78) = true := by simp [h78]
        have H78 : Hid ((s[k].toNat : Int) = 78) := h78
        clear h78
        go_wp2_with fail
        go_roundg (gk - 1)
        case measure => go_light; omega
        case rel =>
          go_light
          refine ⟨rfl, k + 1, B, N + 1, A, by omega, by go_num, rfl, rfl, rfl, ?_⟩
          show La.accTo _ (k + 1) = _
          simp only [La.accTo, HK.out, HC.out]
          rw [if_pos H78.out]
      · have hb : ((s[k].toNat : Int) == 78) = false := by simp [h78]
        by_cases hN : N = 0
        · have hNb : (N == 0) = true := by simp [hN]
          have HN : Hid (N = 0) := hN
          clear hN
          go_wp2_with (go_at_call 10; refine (wid_any _ _).mono ?_; rintro e w' ⟨rfl, rfl⟩)
          go_roundg (gk - 1)
          case measure => go_light; omega
          case rel =>
            go_light
            refine ⟨rfl, k + 1, B + La.wid (s[k].toNat : Int), N, A, by omega, by go_num, rfl, rfl, rfl, ?_⟩
            show La.accTo _ (k + 1) = _
            simp only [La.accTo, HK.out, HC.out]
            rw [if_neg h78, if_pos HN.out]
        · have hNb : (N == 0) = false := by simp [hN]
          go_wp2_with (go_at_call 10; refine (wid_any _ _).mono ?_; rintro e w' ⟨rfl, rfl⟩)
          go_roundg (gk - 1)
          case measure => go_light; omega
          case rel =>
            go_light
            refine ⟨rfl, k + 1, B, N, A + La.wid (s[k].toNat : Int), by omega, by go_num, rfl, rfl, rfl, ?_⟩
            show La.accTo _ (k + 1) = _
            simp only [La.accTo, HK.out, HC.out]
            rw [if_neg h78, if_neg hN]
    · have he : (B, N, A) = (b, n, a) := by
        rw [← HK.out, ← HA.out, show k = s.size by omega]
      simp only [Prod.mk.injEq] at he
      obtain ⟨rfl, rfl, rfl⟩ := he
      go_wp2_with fail
      go_ret
      exact ⟨rfl, hbel⟩

set_option maxRecDepth 100000 in
set_option maxHeartbeats 1000000 in
theorem layout_41 (w : World) : Calls Try.prog 3 #[.int .u16 41] w fun e w' => e = .returned (.bool true) ∧ Below w.heap.size w w' := by
  go_enter Try.func3, Try.ntmps3
  go_wp2_with fail
  refine (zzlayout_of 41 0 0 0 true true _ layoutOf_41).mono ?_
  rintro e w1 ⟨rfl, hbel⟩
  go_wp2_with fail
  refine (fields_41 _).mono ?_
  rintro e w2 ⟨rfl, hw2⟩
  obtain rfl : w1 = w2 := hw2.symm
  go_wp2_with fail
  go_ret
  exact ⟨rfl, hbel⟩

set_option maxRecDepth 100000 in
set_option maxHeartbeats 1000000 in
theorem layout_else (t : Int) (w : World) (b1 : (t == 1) = false) (b28 : (t == 28) = false) (b2 : (t == 2) = false) (b5 : (t == 5) = false) (b12 : (t == 12) = false) (b15 : (t == 15) = false) (b6 : (t == 6) = false) (b41 : (t == 41) = false) : Calls Try.prog 3 #[.int .u16 t] w fun e w' => e = .returned (.bool true) ∧ Below w.heap.size w w' := by
  go_enter Try.func3, Try.ntmps3
  go_wp2_with fail
  refine (zzlayout_of t 0 0 0 false false _ (fun w => layoutOf_else t w b1 b28 b2 b5 b12 b15 b6 b41)).mono ?_
  rintro e w1 ⟨rfl, hbel⟩
  go_wp2_with fail
  refine (fields_else t _ b1 b2 b5 b6 b12 b15 b28 b41).mono ?_
  rintro e w2 ⟨rfl, hw2⟩
  obtain rfl : w1 = w2 := hw2.symm
  go_wp2_with fail
  go_ret
  exact ⟨rfl, hbel⟩

theorem layout_any (t : Int) (w : World) : Calls Try.prog 3 #[.int .u16 t] w fun e w' => e = .returned (.bool true) ∧ Below w.heap.size w w' := by
  by_cases e1 : t = 1
  · subst e1
    exact layout_known 1 4 0 0 { data := #[52] } w (by decide) (by rw [ByteArray.toList_eq]; decide) (by decide) (fun w => zzlayout_of 1 4 0 0 false true w layoutOf_1) fields_1
  by_cases e28 : t = 28
  · subst e28
    exact layout_known 28 16 0 0 { data := #[81] } w (by decide) (by rw [ByteArray.toList_eq]; decide) (by decide) (fun w => zzlayout_of 28 16 0 0 false true w layoutOf_28) fields_28
  by_cases e2 : t = 2
  · subst e2
    exact layout_known 2 0 1 0 { data := #[78] } w (by decide) (by rw [ByteArray.toList_eq]; decide) (by decide) (fun w => zzlayout_of 2 0 1 0 false true w layoutOf_2) fields_2
  by_cases e5 : t = 5
  · subst e5
    exact layout_known 5 0 1 0 { data := #[78] } w (by decide) (by rw [ByteArray.toList_eq]; decide) (by decide) (fun w => zzlayout_of 5 0 1 0 false true w layoutOf_5) fields_5
  by_cases e12 : t = 12
  · subst e12
    exact layout_known 12 0 1 0 { data := #[78] } w (by decide) (by rw [ByteArray.toList_eq]; decide) (by decide) (fun w => zzlayout_of 12 0 1 0 false true w layoutOf_12) fields_12
  by_cases e15 : t = 15
  · subst e15
    exact layout_known 15 2 1 0 { data := #[83, 78] } w (by decide) (by rw [ByteArray.toList_eq]; decide) (by decide) (fun w => zzlayout_of 15 2 1 0 false true w layoutOf_15) fields_15
  by_cases e6 : t = 6
  · subst e6
    exact layout_known 6 0 2 20 { data := #[78, 78, 76, 76, 76, 76, 76] } w (by decide) (by rw [ByteArray.toList_eq]; decide) (by decide) (fun w => zzlayout_of 6 0 2 20 false true w layoutOf_6) fields_6
  by_cases e41 : t = 41
  · subst e41
    exact layout_41 w
  exact layout_else t w (by simp [e1]) (by simp [e28]) (by simp [e2]) (by simp [e5]) (by simp [e12]) (by simp [e15]) (by simp [e6]) (by simp [e41])
end Go.Proofs.Qxb6601654a
