/-
  THE WALKS OF '(*keySet).slot' (function 26) AND 'ZZKeySetSlot' (function 20): over a table of n = 2^k slots, shift 64 - k, with a slot that is empty or holds id: the first such slot from id's home on, cyclically.
-/
import Derived.Test.Qxb6601348aRows
import Derived.Test.Qxb6601348aSlotPlain
import Derived.WalkKit
import Derived.ProofKit
import Derived.Below
import Derived.Deep.LoopGhost
namespace Go.Proofs.Qxb6601348a
open Go.RowKit

theorem ret_u64 {a b : Int} (h : a = b) : Ending.returned (.int .u64 a) = .returned (.int .u64 b) := by rw [h]

set_option maxHeartbeats 400000 in
theorem slot_any (B tb n c h D : Nat) (T : List Int) (sh id : Int) (w : World)
   (h0 : w.cell? ⟨B, 0, none⟩ = some (.slice (some ⟨tb, 0, none⟩) n c)) (h1 : w.cell? ⟨B, 1, none⟩ = some (.int .u64 sh))
   (hT : ∀ j, j < n → w.cell? ⟨tb, j, none⟩ = some (.int .u64 (T.getD j 0))) (hn1 : 1 ≤ n) (hn : n ≤ 131072) (hs0 : 0 ≤ sh) (hs : sh ≤ 64) (hhn : h < n)
   (hh : Hid (IntKind.u64.wrap (id * 11400714819323198485) / 2 ^ sh.toNat = (h : Int)))
   (hm : Hid (∀ p : Nat, p < n → bits BinOp.and IntKind.u64 ((p : Int) + 1) ((n : Int) - 1) = (((p + 1) % n : Nat) : Int)))
   (hD : Hid (Sl.stopAt T id ((h + D) % n))) (hD2 : Hid (∀ e, e < D → ¬ Sl.stopAt T id ((h + e) % n))) :
    Calls Try.prog 26 #[.pointer (some ⟨B, 0, none⟩), .int .u64 id] w fun e w' => e = .returned (.int .u64 (((h + D) % n : Nat) : Int)) ∧ w' = w := by
  go_enter Try.func26, Try.ntmps26
  go_wp2
  rw [hh.out]
  go_loopg [6] D (fun g i wr => wr = w ∧ ∃ d p : Nat, d + g = D ∧ p < n ∧ Hid (p = (h + d) % n) ∧ i = .int .u64 p)
  case atStart => exact ⟨rfl, 0, h, by omega, hhn, (Nat.mod_eq_of_lt hhn).symm, rfl⟩
  case round =>
    obtain ⟨rfl, d, p, hg, hp, Hp, rfl⟩ := hrel
    have hc := hT p hp
    have HS : Hid (Sl.stopAt T id p ↔ T.getD p 0 = 0 ∨ T.getD p 0 = id) := Iff.rfl
    generalize T.getD p 0 = t at hc HS
    clear hT
    have hstop : Hid (Sl.stopAt T id p → (p : Int) = (((h + D) % n : Nat) : Int)) := by
      intro hst
      have e : ¬ d < D := fun hlt => hD2.out d hlt (by rw [← Hp.out]; exact hst)
      have : d = D := by omega
      rw [← this, ← Hp.out]
    by_cases ht : t = 0
    · have HR : Hid ((p : Int) = (((h + D) % n : Nat) : Int)) := hstop.out (HS.out.2 (Or.inl ht))
      have ht0 : (t != 0) = false := by simp [ht]
      go_wp2
      go_ret
      exact ⟨ret_u64 HR.out, rfl⟩
    · have ht0 : (t != 0) = true := by simp [ht]
      by_cases hti : t = id
      · have HR : Hid ((p : Int) = (((h + D) % n : Nat) : Int)) := hstop.out (HS.out.2 (Or.inr hti))
        have ht1 : (t != id) = false := by simp [hti]
        have HT : Hid (t = id) := hti
        clear hti
        go_wp2
        go_ret
        exact ⟨ret_u64 HR.out, rfl⟩
      · have ht1 : (t != id) = true := by simp [hti]
        have hlt : Hid (d < D) := by
          have : d ≠ D := fun e => by
            subst e
            have := hD.out
            rw [← Hp.out] at this
            rcases HS.out.1 this with h | h
            · exact ht h
            · exact hti h
          show d < D
          omega
        go_wp2
        go_roundg (gk - 1)
        case measure => have := hlt.out; omega
        case rel =>
          refine ⟨rfl, d + 1, (p + 1) % n, by have := hlt.out; omega, Nat.mod_lt _ (by omega), ?_, by rw [hm.out p hp]⟩
          show _ = _
          rw [Hp.out]; exact Sl.step_mod h d n

/-- THE CONTRACT OF 'ZZKeySetSlot', for whatever caller: the table lies in memory that the call finds (block tb); it makes one new block and turns nothing that was there. -/
theorem keyslot_any (k tb c : Nat) (T : List Int) (cnt sh id : Int) (w : World) (hk : k ≤ 17) (hsh : sh = 64 - (k : Int)) (hb : tb < w.heap.size)
   (hT : ∀ j, j < 2 ^ k → w.cell? ⟨tb, j, none⟩ = some (.int .u64 (T.getD j 0))) (hex : ∃ j, j < 2 ^ k ∧ Sl.stopAt T id j) :
    Calls Try.prog 20 #[.slice (some ⟨tb, 0, none⟩) (2 ^ k) c, .int .u64 sh, .int .i64 cnt, .int .u64 id] w fun e w' =>
      ∃ r : Nat, e = .returned (.int .u64 r) ∧ Sl.Found T (2 ^ k) (Sl.home id k) id r ∧ Below w.heap.size w w' := by
  have hpos : 1 ≤ 2 ^ k := Nat.two_pow_pos _
  have hle : 2 ^ k ≤ 131072 := Nat.pow_le_pow_right (n := 2) (by omega) hk
  have hhome := Sl.home_lt id k (by omega)
  obtain ⟨D, hDn, hD1, hD2⟩ := Sl.least_dist T (2 ^ k) (Sl.home id k) id hhome hex
  have HF : Hid (Sl.Found T (2 ^ k) (Sl.home id k) id ((Sl.home id k + D) % 2 ^ k)) := ⟨D, hDn, rfl, hD1, hD2⟩
  have HH : Hid (IntKind.u64.wrap (id * 11400714819323198485) / 2 ^ sh.toNat = ((Sl.home id k : Nat) : Int)) := by
    show _ = _
    rw [Sl.home_cast, IntKind.wrap_u64, hsh, show (64 - (k : Int)).toNat = 64 - k by omega]
  have HM : Hid (∀ p : Nat, p < 2 ^ k → bits BinOp.and IntKind.u64 ((p : Int) + 1) (((2 ^ k : Nat) : Int) - 1) = (((p + 1) % 2 ^ k : Nat) : Int)) := fun p hp => Sl.and_mask p k hp hk
  have H1 : Hid (Sl.stopAt T id ((Sl.home id k + D) % 2 ^ k)) := hD1
  have H2 : Hid (∀ e, e < D → ¬ Sl.stopAt T id ((Sl.home id k + e) % 2 ^ k)) := hD2
  have hs0 : 0 ≤ sh := by omega
  have hs1 : sh ≤ 64 := by omega
  clear hD1 hD2 hex hDn hsh
  generalize 2 ^ k = n at *
  generalize Sl.home id k = h at *
  go_enter Try.func20, Try.ntmps20
  go_wp2_with fail
  refine (slot_any w.heap.size tb n c h D T sh id _ (by simp) (by simp) (fun j hj => by rw [World.cell?_alloc_past _ _ _ (by simpa using hb)]; exact hT j hj) hpos hle hs0 hs1 hhome HH HM H1 H2).mono ?_
  rintro e w' ⟨rfl, rfl⟩
  go_wp2
  go_ret
  exact ⟨_, rfl, HF.out, (Below.refl _ _).alloc (Nat.le_refl _) _⟩

/-- The same, the number of slots under a name of its own. -/
theorem keyslot_n (k n tb c : Nat) (T : List Int) (cnt sh id : Int) (w : World) (hn : Hid (n = 2 ^ k)) (hk : k ≤ 17) (hsh : sh = 64 - (k : Int)) (hb : tb < w.heap.size)
   (hT : ∀ j, j < n → w.cell? ⟨tb, j, none⟩ = some (.int .u64 (T.getD j 0))) (hex : ∃ j, j < n ∧ Sl.stopAt T id j) :
    Calls Try.prog 20 #[.slice (some ⟨tb, 0, none⟩) n c, .int .u64 sh, .int .i64 cnt, .int .u64 id] w fun e w' =>
      ∃ r : Nat, e = .returned (.int .u64 r) ∧ Sl.Found T n (Sl.home id k) id r ∧ Below w.heap.size w w' := by
  have h : n = 2 ^ k := hn
  subst h
  exact keyslot_any k tb c T cnt sh id w hk hsh hb hT hex
end Go.Proofs.Qxb6601348a
