/-
  THE PLAIN MATHEMATICS OF 'FnSlotIsNearestFreeOrMatchingSlot': no program in sight: the search for the slot that lies least far on from home.
-/
import Derived.Test.Qxb6601348aSlotPlain
namespace Go.Proofs.Qxb6601348a.Sl

/-- How far j lies on from h, cyclically. -/
def dist (n h j : Nat) : Nat := (j + n - h) % n

theorem dist_lo (n h j : Nat) (hj : j < n) (h1 : h ≤ j) : dist n h j = j - h := by
  unfold dist
  rw [show j + n - h = (j - h) + n by omega, Nat.add_mod_right]; exact Nat.mod_eq_of_lt (by omega)

theorem dist_hi (n h j : Nat) (hh : h < n) (h1 : j < h) : dist n h j = j + n - h := by
  unfold dist
  exact Nat.mod_eq_of_lt (by omega)

theorem dist_lt (n h j : Nat) (hn : 0 < n) : dist n h j < n := Nat.mod_lt _ hn

theorem dist_back (n h D : Nat) (hh : h < n) (hD : D < n) : dist n h ((h + D) % n) = D := by
  by_cases hlt : h + D < n
  · rw [Nat.mod_eq_of_lt hlt, dist_lo n h _ hlt (by omega)]; omega
  · have e : (h + D) % n = h + D - n := by
      rw [show h + D = (h + D - n) + n by omega, Nat.add_mod_right]
      rw [Nat.mod_eq_of_lt (by omega)]; omega
    rw [e, dist_hi n h _ hh (by omega)]; omega

/-- What the loop holds when the slots below m have been looked at. -/
def Best (T : List Int) (id : Int) (n h m : Nat) (best bd : Int) : Prop :=
  (best = -1 ∧ bd = n ∧ ∀ j, j < m → ¬ stopAt T id j) ∨
  ∃ b : Nat, b < m ∧ best = b ∧ bd = dist n h b ∧ stopAt T id b ∧ ∀ j, j < m → stopAt T id j → dist n h b ≤ dist n h j

theorem Best.start (T : List Int) (id : Int) (n h : Nat) : Best T id n h 0 (-1) n := Or.inl ⟨rfl, rfl, fun j hj => by omega⟩

theorem Best.skip {T : List Int} {id : Int} {n h m : Nat} {best bd : Int} (hb : Best T id n h m best bd) (hs : ¬ stopAt T id m) : Best T id n h (m + 1) best bd := by
  rcases hb with ⟨h1, h2, h3⟩ | ⟨b, h1, h2, h3, h4, h5⟩
  · refine Or.inl ⟨h1, h2, fun j hj => ?_⟩
    by_cases e : j = m
    · rw [e]; exact hs
    · exact h3 j (by omega)
  · refine Or.inr ⟨b, by omega, h2, h3, h4, fun j hj hst => ?_⟩
    by_cases e : j = m
    · rw [e] at hst; exact absurd hst hs
    · exact h5 j (by omega) hst

theorem Best.take {T : List Int} {id : Int} {n h m : Nat} {best bd : Int} (hb : Best T id n h m best bd) (hs : stopAt T id m) (hlt : (dist n h m : Int) < bd) : Best T id n h (m + 1) m (dist n h m) := by
  refine Or.inr ⟨m, by omega, rfl, rfl, hs, fun j hj hst => ?_⟩
  by_cases e : j = m
  · rw [e]; exact Nat.le_refl _
  · rcases hb with ⟨h1, h2, h3⟩ | ⟨b, h1, h2, h3, h4, h5⟩
    · exact absurd hst (h3 j (by omega))
    · have := h5 j (by omega) hst
      omega

theorem Best.keep {T : List Int} {id : Int} {n h m : Nat} {best bd : Int} (hb : Best T id n h m best bd) (hn : 0 < n) (hge : ¬ (dist n h m : Int) < bd) : Best T id n h (m + 1) best bd := by
  rcases hb with ⟨h1, h2, h3⟩ | ⟨b, h1, h2, h3, h4, h5⟩
  · exfalso
    have := dist_lt n h m hn
    omega
  · refine Or.inr ⟨b, by omega, h2, h3, h4, fun j hj hst => ?_⟩
    by_cases e : j = m
    · rw [e]; omega
    · exact h5 j (by omega) hst

theorem Best.done {T : List Int} {id : Int} {n h r : Nat} {best bd : Int} (hb : Best T id n h n best bd) (hh : h < n) (hf : Found T n h id r) : best = r := by
  obtain ⟨D, hD, rfl, hs, hm⟩ := hf
  have hrn : (h + D) % n < n := Nat.mod_lt _ (by omega)
  rcases hb with ⟨h1, h2, h3⟩ | ⟨b, h1, h2, h3, h4, h5⟩
  · exact absurd hs (h3 _ hrn)
  · have h6 := h5 _ hrn hs
    rw [dist_back n h D hh hD] at h6
    have hb' : (h + dist n h b) % n = b := dist_spec n h b hh h1
    have h7 : ¬ dist n h b < D := fun hlt => hm _ hlt (by rw [hb']; exact h4)
    have h8 : dist n h b = D := by omega
    rw [h8] at hb'
    rw [h2, hb']
end Go.Proofs.Qxb6601348a.Sl
