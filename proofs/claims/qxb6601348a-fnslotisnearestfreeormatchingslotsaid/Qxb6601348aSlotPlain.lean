/-
  THE PLAIN MATHEMATICS OF THE KEY SET's SLOT: no Go in sight. A table of n = 2^k slots, 0 in an empty one; an id's home slot; the first slot, cyclically from home on, that is empty or holds the id.
-/
import Derived.WalkKit
import Derived.Deep.LoopGhost
namespace Go.Proofs.Qxb6601348a.Sl

/-- The home slot of id in a table of 2^k slots: the top k bits of the product, wrapped at 2^64. -/
def home (id : Int) (k : Nat) : Nat := (id * 11400714819323198485 % 18446744073709551616 / 2 ^ (64 - k)).toNat

theorem pow_split (k : Nat) (hk : k ≤ 64) : (2 : Int) ^ k * 2 ^ (64 - k) = 18446744073709551616 := by
  rw [← Int.pow_add, show k + (64 - k) = 64 by omega]; rfl

theorem home_cast (id : Int) (k : Nat) : ((home id k : Nat) : Int) = id * 11400714819323198485 % 18446744073709551616 / 2 ^ (64 - k) := by
  unfold home
  have h : 0 ≤ id * 11400714819323198485 % 18446744073709551616 / 2 ^ (64 - k) := Int.ediv_nonneg (Int.emod_nonneg _ (by omega)) (Int.le_of_lt (Int.pow_pos (by omega)))
  exact Int.toNat_of_nonneg h

theorem home_lt (id : Int) (k : Nat) (hk : k ≤ 64) : home id k < 2 ^ k := by
  have h1 : id * 11400714819323198485 % 18446744073709551616 < 2 ^ k * 2 ^ (64 - k) := by
    rw [pow_split k hk]; exact Int.emod_lt_of_pos _ (by omega)
  have h2 : id * 11400714819323198485 % 18446744073709551616 / 2 ^ (64 - k) < 2 ^ k := Int.ediv_lt_of_lt_mul (Int.pow_pos (by omega)) h1
  rw [← home_cast, show (2 : Int) ^ k = ((2 ^ k : Nat) : Int) by simp] at h2
  exact Int.ofNat_lt.1 h2

/-- A slot at which the search stops. -/
def stopAt (T : List Int) (id : Int) (j : Nat) : Prop := T.getD j 0 = 0 ∨ T.getD j 0 = id

/-- r is the first such slot from h on, cyclically. -/
def Found (T : List Int) (n h : Nat) (id : Int) (r : Nat) : Prop := ∃ d, d < n ∧ r = (h + d) % n ∧ stopAt T id r ∧ ∀ e, e < d → ¬ stopAt T id ((h + e) % n)

theorem Found.lt {T : List Int} {n h : Nat} {id : Int} {r : Nat} (hf : Found T n h id r) : r < n := by
  obtain ⟨d, hd, rfl, _⟩ := hf
  exact Nat.mod_lt _ (by omega)

theorem Found.stop {T : List Int} {n h : Nat} {id : Int} {r : Nat} (hf : Found T n h id r) : stopAt T id r := by
  obtain ⟨d, hd, rfl, hs, _⟩ := hf
  exact hs

/-- The distance from h to j, cyclically. -/
theorem dist_spec (n h j : Nat) (hh : h < n) (hj : j < n) : (h + (j + n - h) % n) % n = j := by
  by_cases hjh : h ≤ j
  · have e : (j + n - h) % n = j - h := by
      rw [show j + n - h = (j - h) + n by omega, Nat.add_mod_right]; exact Nat.mod_eq_of_lt (by omega)
    rw [e, show h + (j - h) = j by omega]; exact Nat.mod_eq_of_lt hj
  · have e : (j + n - h) % n = j + n - h := Nat.mod_eq_of_lt (by omega)
    rw [e, show h + (j + n - h) = j + n by omega, Nat.add_mod_right]; exact Nat.mod_eq_of_lt hj

theorem least_dist (T : List Int) (n h : Nat) (id : Int) (hh : h < n) (hex : ∃ j, j < n ∧ stopAt T id j) :
    ∃ D, D < n ∧ stopAt T id ((h + D) % n) ∧ ∀ e, e < D → ¬ stopAt T id ((h + e) % n) := by
  obtain ⟨j, hj, hs⟩ := hex
  have h0 : ∃ D, D < n ∧ stopAt T id ((h + D) % n) := ⟨(j + n - h) % n, Nat.mod_lt _ (by omega), by rw [dist_spec n h j hh hj]; exact hs⟩
  obtain ⟨D, ⟨h1, h2⟩, h3⟩ := exists_least h0
  exact ⟨D, h1, h2, fun e he hse => by have := h3 e ⟨by omega, hse⟩; omega⟩

/-- One step on: '(i + 1) & mask'. -/
theorem and_mask (p k : Nat) (hp : p < 2 ^ k) (hk : k ≤ 17) : bits BinOp.and IntKind.u64 ((p : Int) + 1) (((2 ^ k : Nat) : Int) - 1) = (((p + 1) % 2 ^ k : Nat) : Int) := by
  have hle : 2 ^ k ≤ 2 ^ 17 := Nat.pow_le_pow_right (by omega) hk
  have h1 : 0 < 2 ^ k := Nat.two_pow_pos _
  have e : (((2 ^ k : Nat) : Int) - 1) = ((2 ^ k - 1 : Nat) : Int) := by omega
  rw [e, show ((p : Int) + 1) = ((p + 1 : Nat) : Int) by omega, bits_and_u64_nat _ _ (by omega) (by omega), Nat.and_two_pow_sub_one_eq_mod]

theorem step_mod (h d n : Nat) : ((h + d) % n + 1) % n = (h + (d + 1)) % n := by
  rw [Nat.mod_add_mod, Nat.add_assoc]

/-- '1 << k' as an int. -/
theorem wrap_pow (k : Nat) (hk : k ≤ 62) : RowKit.wrap64 (2 ^ k) = ((2 ^ k : Nat) : Int) := by
  have h : 2 ^ k ≤ 2 ^ 62 := Nat.pow_le_pow_right (by omega) hk
  have e : (2 : Int) ^ k = ((2 ^ k : Nat) : Int) := by simp
  rw [e]
  generalize 2 ^ k = m at h
  unfold RowKit.wrap64
  omega

/-! ### The script: inserting ids one by one -/

/-- Is the id at place i not 0, and new? -/
def isNew (ids : List Int) (i : Nat) : Bool := decide (ids.getD i 0 ≠ 0) && (List.range i).all fun j => decide (ids.getD j 0 ≠ ids.getD i 0)

theorem isNew_iff (ids : List Int) (i : Nat) : isNew ids i = true ↔ ids.getD i 0 ≠ 0 ∧ ∀ j, j < i → ids.getD j 0 ≠ ids.getD i 0 := by
  simp [isNew]

/-- How many of the first i ids are not 0 and new. -/
def distinctTo (ids : List Int) : Nat → Nat
  | 0 => 0
  | i + 1 => distinctTo ids i + if isNew ids i = true then 1 else 0

theorem distinctTo_le (ids : List Int) (i : Nat) : distinctTo ids i ≤ i := by
  induction i with
  | zero => simp [distinctTo]
  | succ i ih => simp only [distinctTo]; split <;> omega

/-- How many of the first j slots are not empty. -/
def occTo (T : List Int) : Nat → Nat
  | 0 => 0
  | j + 1 => occTo T j + if T.getD j 0 = 0 then 0 else 1

theorem occTo_le (T : List Int) (j : Nat) : occTo T j ≤ j := by
  induction j with
  | zero => simp [occTo]
  | succ j ih => simp only [occTo]; split <;> omega

theorem occTo_full (T : List Int) (j : Nat) (h : ∀ i, i < j → T.getD i 0 ≠ 0) : occTo T j = j := by
  induction j with
  | zero => simp [occTo]
  | succ j ih => simp only [occTo]; rw [if_neg (h j (by omega)), ih (fun i hi => h i (by omega))]

theorem occTo_replicate (n j : Nat) : occTo (List.replicate n 0) j = 0 := by
  induction j with
  | zero => simp [occTo]
  | succ j ih =>
    simp only [occTo]
    rw [ih, if_pos]
    by_cases hj : j < n <;> simp [hj]

theorem getD_set (T : List Int) (r i : Nat) (x : Int) (hr : r < T.length) : (T.set r x).getD i 0 = if i = r then x else T.getD i 0 := by
  by_cases h : i = r
  · subst h; simp [hr]
  · rw [if_neg h]; simp [Ne.symm h]

theorem occTo_set_lo (T : List Int) (r j : Nat) (x : Int) (hr : r < T.length) (hj : j ≤ r) : occTo (T.set r x) j = occTo T j := by
  induction j with
  | zero => simp [occTo]
  | succ j ih => simp only [occTo]; rw [ih (by omega), getD_set T r j x hr, if_neg (by omega : ¬ j = r)]

theorem occTo_set_hi (T : List Int) (r j : Nat) (x : Int) (hr : r < T.length) (h0 : T.getD r 0 = 0) (hx : x ≠ 0) (hj : r < j) : occTo (T.set r x) j = occTo T j + 1 := by
  induction j with
  | zero => omega
  | succ j ih =>
    simp only [occTo]
    rw [getD_set T r j x hr]
    by_cases h : j = r
    · subst h
      rw [occTo_set_lo T j j x hr (Nat.le_refl _)]
      rw [if_pos rfl, if_neg hx, if_pos h0]
    · rw [if_neg h, ih (by omega)]; omega

/-- WHAT HOLDS OF THE TABLE WHEN THE FIRST i IDS HAVE BEEN TAKEN. -/
structure Inv (ids : List Int) (k i : Nat) (T : List Int) (cnt : Nat) : Prop where
  len : T.length = 2 ^ k
  sub : ∀ j, T.getD j 0 ≠ 0 → ∃ a, a < i ∧ ids.getD a 0 = T.getD j 0
  path : ∀ a, a < i → ids.getD a 0 ≠ 0 → ∃ d, d < 2 ^ k ∧ T.getD ((home (ids.getD a 0) k + d) % 2 ^ k) 0 = ids.getD a 0 ∧ ∀ e, e < d → T.getD ((home (ids.getD a 0) k + e) % 2 ^ k) 0 ≠ 0
  occ : occTo T (2 ^ k) = cnt
  dis : distinctTo ids i = cnt

theorem Inv.start (ids : List Int) (k : Nat) : Inv ids k 0 (List.replicate (2 ^ k) 0) 0 := by
  refine ⟨by simp, fun j hj => ?_, fun a ha => by omega, occTo_replicate _ _, rfl⟩
  exfalso; apply hj
  by_cases h : j < 2 ^ k <;> simp [h]

theorem Inv.cnt_le {ids : List Int} {k i : Nat} {T : List Int} {cnt : Nat} (h : Inv ids k i T cnt) : cnt ≤ i := by
  rw [← h.dis]; exact distinctTo_le _ _

/-- There is an empty slot while the table is larger than the number of ids. -/
theorem Inv.free {ids : List Int} {k i : Nat} {T : List Int} {cnt : Nat} (h : Inv ids k i T cnt) (hi : i < 2 ^ k) (id : Int) : ∃ j, j < 2 ^ k ∧ stopAt T id j := by
  apply Classical.byContradiction
  intro hc
  have hall : ∀ j, j < 2 ^ k → T.getD j 0 ≠ 0 := fun j hj h0 => hc ⟨j, hj, Or.inl h0⟩
  have h1 := occTo_full T (2 ^ k) hall
  have h2 := h.occ
  have h3 := h.cnt_le
  omega

/-- An id that was inserted is found. -/
theorem Inv.seen {ids : List Int} {k i : Nat} {T : List Int} {cnt : Nat} (h : Inv ids k i T cnt) {a : Nat} (ha : a < i) (h0 : ids.getD a 0 ≠ 0) {r : Nat}
    (hf : Found T (2 ^ k) (home (ids.getD a 0) k) (ids.getD a 0) r) : T.getD r 0 = ids.getD a 0 := by
  obtain ⟨d, hd, hx, hp⟩ := h.path a ha h0
  obtain ⟨D, hD, rfl, hs, hm⟩ := hf
  rcases hs with hs | hs
  · exfalso
    by_cases hlt : D < d
    · exact hp D hlt hs
    · by_cases he : d = D
      · subst he; rw [hs] at hx; exact h0 hx.symm
      · exact hm d (by omega) (Or.inr hx)
  · exact hs

/-- An id that was not inserted is sent to an empty slot. -/
theorem Inv.unseen {ids : List Int} {k i : Nat} {T : List Int} {cnt : Nat} (h : Inv ids k i T cnt) {x : Int} (hx : x ≠ 0) (hn : ∀ a, a < i → ids.getD a 0 ≠ x) {r : Nat}
    (hs : stopAt T x r) : T.getD r 0 = 0 := by
  rcases hs with hs | hs
  · exact hs
  · exfalso
    obtain ⟨a, ha, he⟩ := h.sub r (by rw [hs]; exact hx)
    exact hn a ha (he.trans hs)

/-- The id at place i is 0: nothing is done. -/
theorem Inv.skip {ids : List Int} {k i : Nat} {T : List Int} {cnt : Nat} (h : Inv ids k i T cnt) (h0 : ids.getD i 0 = 0) : Inv ids k (i + 1) T cnt := by
  refine ⟨h.len, fun j hj => ?_, fun a ha hne => ?_, h.occ, ?_⟩
  · obtain ⟨a, ha, he⟩ := h.sub j hj; exact ⟨a, by omega, he⟩
  · by_cases hai : a = i
    · subst hai; exact absurd h0 hne
    · exact h.path a (by omega) hne
  · have hn : ¬ isNew ids i = true := by rw [isNew_iff]; intro hc; exact hc.1 h0
    simp only [distinctTo]; rw [if_neg hn]; exact h.dis

/-- The id at place i is there already: nothing is done. -/
theorem Inv.again {ids : List Int} {k i : Nat} {T : List Int} {cnt : Nat} (h : Inv ids k i T cnt) (h0 : ids.getD i 0 ≠ 0) {r : Nat} (hf : Found T (2 ^ k) (home (ids.getD i 0) k) (ids.getD i 0) r) (hr : T.getD r 0 ≠ 0) :
    Inv ids k (i + 1) T cnt := by
  have hr' : T.getD r 0 = ids.getD i 0 := by rcases hf.stop with hs | hs; exact absurd hs hr; exact hs
  refine ⟨h.len, fun j hj => ?_, fun a ha hne => ?_, h.occ, ?_⟩
  · obtain ⟨a, ha, he⟩ := h.sub j hj; exact ⟨a, by omega, he⟩
  · by_cases hai : a = i
    · subst hai
      obtain ⟨a', ha', he⟩ := h.sub r hr
      rw [hr'] at he
      have := h.path a' ha' (by rw [he]; exact h0)
      rw [he] at this
      exact this
    · exact h.path a (by omega) hne
  · have hn : ¬ isNew ids i = true := by
      rw [isNew_iff]; intro hc
      obtain ⟨a', ha', he⟩ := h.sub r hr
      exact hc.2 a' ha' (he.trans hr')
    simp only [distinctTo]; rw [if_neg hn]; exact h.dis

/-- The slot is empty: the id is laid there. -/
theorem Inv.put {ids : List Int} {k i : Nat} {T : List Int} {cnt : Nat} (h : Inv ids k i T cnt) (h0 : ids.getD i 0 ≠ 0) {r : Nat} (hf : Found T (2 ^ k) (home (ids.getD i 0) k) (ids.getD i 0) r) (hr : T.getD r 0 = 0) :
    Inv ids k (i + 1) (T.set r (ids.getD i 0)) (cnt + 1) := by
  have hrl : r < T.length := by rw [h.len]; exact hf.lt
  have keep : ∀ j, T.getD j 0 ≠ 0 → (T.set r (ids.getD i 0)).getD j 0 = T.getD j 0 := by
    intro j hj
    rw [getD_set T r j _ hrl, if_neg]
    intro e; subst e; exact hj hr
  refine ⟨by rw [List.length_set]; exact h.len, fun j hj => ?_, fun a ha hne => ?_, ?_, ?_⟩
  · rw [getD_set T r j _ hrl] at hj ⊢
    by_cases e : j = r
    · rw [if_pos e]; exact ⟨i, by omega, rfl⟩
    · rw [if_neg e] at hj ⊢
      obtain ⟨a, ha, he⟩ := h.sub j hj; exact ⟨a, by omega, he⟩
  · by_cases hai : a = i
    · subst hai
      obtain ⟨d, hd, rfl, _, hm⟩ := hf
      refine ⟨d, hd, by rw [getD_set T _ _ _ hrl, if_pos rfl], fun e he => ?_⟩
      have hne' : T.getD ((home (ids.getD a 0) k + e) % 2 ^ k) 0 ≠ 0 := fun hz => hm e he (Or.inl hz)
      rw [keep _ hne']; exact hne'
    · obtain ⟨d, hd, hx, hp⟩ := h.path a (by omega) hne
      refine ⟨d, hd, by rw [keep _ (by rw [hx]; exact hne)]; exact hx, fun e he => ?_⟩
      rw [keep _ (hp e he)]; exact hp e he
  · rw [occTo_set_hi T r (2 ^ k) _ hrl hr h0 hf.lt, h.occ]
  · have hn : isNew ids i = true := by
      rw [isNew_iff]
      refine ⟨h0, fun a ha he => ?_⟩
      have hne : ids.getD a 0 ≠ 0 := by rw [he]; exact h0
      have := h.seen ha hne (r := r) (by rw [he]; exact hf)
      rw [hr] at this
      exact hne this.symm
    simp only [distinctTo]; rw [if_pos hn, h.dis]
end Go.Proofs.Qxb6601348a.Sl
