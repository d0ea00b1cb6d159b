/-
  THE WALKS OF 'zzLog2' (19), 'zzFibonacciHome' (21) AND 'FnSlotIsNearestFreeOrMatchingSlot' (7); the plain law lies in Qxb6601348aNearPlain.
-/
import Derived.Test.Qxb6601348aSlotWalk
import Derived.Test.Qxb6601348aOwn
import Derived.Test.Qxb6601348aNearPlain
import Derived.Deep.DeepCutAuto
import Derived.Deep.CutBlock
import Derived.Deep.Light
import Derived.OpenShut
import Derived.WalkSpells
import Derived.WalkSmall
namespace Go.Proofs.Qxb6601348a
open Go.ChangeShapes Go.WideShapes Go.ChangeAt Go.RowKit

/-- 'zzLog2' at the sizes that the law hands it. -/
theorem log2_any (n : Nat) (w : World) (h1 : 1 ≤ n) (h2 : n ≤ 131072) :
    Calls Try.prog 19 #[.int .i64 n] w fun e w' => ∃ (k : Nat) (B : Bool), k ≤ 17 ∧ e = .returned (.tuple #[.int .u64 k, .bool B]) ∧ (B = true ↔ n = 2 ^ k) ∧ w' = w := by
  go_enter Try.func19, Try.ntmps19
  go_wp2
  go_loopg [4] 17 (fun g kk wr => wr = w ∧ ∃ k : Nat, k + g = 17 ∧ kk = .int .u64 k)
  case atStart => exact ⟨rfl, 0, rfl, rfl⟩
  case round =>
    obtain ⟨rfl, k, hkg, rfl⟩ := hrel
    have hw : wrap64 (2 ^ k) = ((2 ^ k : Nat) : Int) := Sl.wrap_pow k (by omega)
    obtain ⟨m, hm⟩ : ∃ m : Nat, m = 2 ^ k := ⟨_, rfl⟩
    have HM : Hid (k < 17 ∨ m = 131072) := by
      by_cases hk : k < 17
      · exact Or.inl hk
      · have : k = 17 := by omega
        subst this; exact Or.inr hm
    rw [← hm] at hw
    have HP : Hid (m = 2 ^ k) := hm
    clear hm
    by_cases ht : m < n
    · go_wp2
      go_roundg (gk - 1)
      case measure => go_light; rcases HM.out with h | h <;> omega
      case rel => go_light; exact ⟨rfl, k + 1, by rcases HM.out with h | h <;> omega, by go_num⟩
    · go_wp2
      go_ret2
      refine ⟨k, _, by omega, rfl, ?_, rfl⟩
      rw [← HP.out]
      simp
      omega

theorem ret_i64 {a b : Int} (h : a = b) : Ending.returned (.int .i64 a) = .returned (.int .i64 b) := by rw [h]

/-- 'zzFibonacciHome'. -/
theorem fib_any (id : Int) (k : Nat) (w : World) (hk : k ≤ 17) :
    Calls Try.prog 21 #[.int .u64 id, .int .u64 k] w fun e w' => e = .returned (.int .i64 (Sl.home id k : Nat)) ∧ w' = w := by
  have hl := Sl.home_lt id k (by omega)
  have hp : 2 ^ k ≤ 2 ^ 17 := Nat.pow_le_pow_right (by omega) hk
  have HC : Hid (IntKind.u64.wrap (id * 11400714819323198485) / 2 ^ (64 - k) = ((Sl.home id k : Nat) : Int)) := by
    show _ = _
    rw [Sl.home_cast, IntKind.wrap_u64]
  by_cases h0 : k = 0
  · subst h0
    have e : Sl.home id 0 = 0 := by simp at hl; exact hl
    rw [e]
    go_enter Try.func21, Try.ntmps21
    go_wp2
    go_ret
    exact ⟨rfl, rfl⟩
  · have hz : Sl.home id k < 131072 := by omega
    clear hl hp
    generalize Sl.home id k = h at *
    go_enter Try.func21, Try.ntmps21
    go_wp2
    go_ret
    exact ⟨ret_i64 (by rw [HC.out]; exact IntWalk.wrap64_in _ ⟨by omega, by omega⟩), rfl⟩

set_option maxRecDepth 100000 in
set_option maxHeartbeats 1000000 in
theorem near_walk (b off len cap0 : Nat) (z0 : List Int) (sh cnt id : Int) (w : World) (hl1 : 1 ≤ len) (hl2 : len ≤ 131072) (hsh0 : 0 ≤ sh) (hsh1 : sh ≤ 18446744073709551615)
    (hbw : b < w.heap.size) (hcell : ∀ i, i < len → w.cell? ⟨b, off + i, none⟩ = some (.int .u64 (z0.getD i 0))) :
    Calls Try.prog 7 #[.slice (some ⟨b, off, none⟩) len cap0, .int .u64 sh, .int .i64 cnt, .int .u64 id] w fun e w' => e = .returned (.bool true) ∧ Below w.heap.size w w' := by
  obtain ⟨i0, hi, hz0, hz1, hz2⟩ := info_parts Try.info29
  have hby : i0.bytes * len ≤ 281474976710656 := by rw [hz2]; omega
  have hml : len ≤ maxLen := by unfold maxLen; omega
  have HC : Hid (∀ i, i < len → w.cell? ⟨b, off + i, none⟩ = some (.int .u64 (z0.getD i 0))) := hcell
  clear hcell
  have hd1 : decide ((131072 : Int) < (len : Int)) = false := by simp; omega
  have hd2 : ((len : Int) == 0) = false := by rw [beq_eq_false_iff_ne]; omega
  go_enter Try.func7, Try.ntmps7
  go_upto_region 6 with go_in
  go_wp2_with fail
  refine (log2_any len _ hl1 hl2).mono ?_
  rintro e w' ⟨k, B, hk, rfl, HB, hww⟩
  obtain rfl : w = w' := hww.symm
  cases B with
  | false =>
    clear HB
    go_wp2_with fail
    go_ret
    exact ⟨rfl, Below.refl _ _⟩
  | true =>
    have HP : Hid (len = 2 ^ k) := HB.1 rfl
    clear HB
    by_cases hs : sh = 64 - (k : Int)
    · subst hs
      go_upto_block 0 with fail
      go_cut [12, 13] (fun s j wr => wr = w ∧ ∃ B : Bool, s = .bool B ∧ Hid (B = true → ∃ j, j < len ∧ Sl.stopAt z0 id j))
      case first =>
        go_wp2_with fail
        go_loopg [12, 13] len (fun g s j wr => wr = w ∧ ∃ m : Nat, m + g = len ∧ j = .int .i64 m ∧ s = .bool false)
        case atStart => exact ⟨rfl, 0, by omega, rfl, rfl⟩
        case round =>
          obtain ⟨hwr, m, hmg, rfl, rfl⟩ := hrel
          obtain rfl : w = wr := hwr.symm
          by_cases hm : m < len
          · have hc := HC.out m hm
            obtain ⟨t, ht⟩ : ∃ t, t = z0.getD m 0 := ⟨_, rfl⟩
            rw [← ht] at hc
            have HT : Hid (t = z0.getD m 0) := ht
            clear ht
            by_cases ht0 : t = 0
            · have htb : (t == 0) = true := by simp [ht0]
              have HT0 : Hid (t = 0) := ht0
              clear ht0
              go_wp2
              go_meet
              case rel => go_light; exact ⟨rfl, true, rfl, fun _ => ⟨m, hm, Or.inl (HT.out.symm.trans HT0.out)⟩⟩
            · have htb : (t == 0) = false := by simp [ht0]
              by_cases hti : t = id
              · have htib : (t == id) = true := by simp [hti]
                have HTI : Hid (t = id) := hti
                clear hti
                go_wp2
                go_meet
                case rel => go_light; exact ⟨rfl, true, rfl, fun _ => ⟨m, hm, Or.inr (HT.out.symm.trans HTI.out)⟩⟩
              · have htib : (t == id) = false := by simp [hti]
                go_wp2
                go_roundg (gk - 1)
                case measure => go_light; omega
                case rel => go_light; exact ⟨rfl, m + 1, by omega, by go_num, rfl⟩
          · go_wp2
            go_meet
            case rel => go_light; exact ⟨rfl, false, rfl, fun h => by cases h⟩
      case rest =>
        obtain ⟨hwr, B, rfl, HB⟩ := hcut
        obtain rfl : w = wc := hwr.symm
        cases B with
        | false =>
          go_wp2_with fail
          go_ret
          exact ⟨rfl, Below.refl _ _⟩
        | true =>
          have hex0 : ∃ j, j < len ∧ Sl.stopAt z0 id j := HB.out (by simp)
          have HEX : Hid (∃ j, j < len ∧ Sl.stopAt z0 id j) := hex0
          clear HB hex0
          go_upto_block 2 with (at_make; refine wpList_make_full _ rfl _ _ 27 rfl w.heap.size 29 i0 (.int .u64 0) 1 Try.underlying27 hi hz0 hz1 _ _ _ _ len rfl rfl rfl rfl hby hml (Nat.le_refl _) ?_; intro w1 hown hgrow)
          have HO := Own.made hown
          have hbt : Below w.heap.size w w1 := (Below.refl _ _).grown hgrow (Nat.le_refl _) (fun k h => by cases h)
          clear hown hgrow hi hz0 hz1 hz2 hby hml
          go_cut [15] (fun j wr => ∃ L, Own wr w.heap.size len L ∧ Hid (∀ j, j < len → L.getD j 0 = z0.getD j 0) ∧ Below w.heap.size w wr)
          case first =>
            go_wp2_with fail
            go_loopg [15] len (fun g j wr => ∃ (m : Nat) (L : List Int), m + g = len ∧ j = .int .i64 m ∧ Own wr w.heap.size len L ∧ Hid (∀ j, j < m → L.getD j 0 = z0.getD j 0) ∧ Below w.heap.size w wr)
            case atStart => exact ⟨0, _, by omega, rfl, HO, (fun j hj => by omega), hbt⟩
            case round =>
              clear HO hbt
              obtain ⟨m, L, hmg, rfl, HO, HL, hbel⟩ := hrel
              by_cases hm : m < len
              · have hcx : wr.cell? ⟨b, off + m, none⟩ = some (.int .u64 (z0.getD m 0)) := (hbel.cell hbw).trans (HC.out m hm)
                obtain ⟨zm, hzm⟩ : ∃ zm, zm = z0.getD m 0 := ⟨_, rfl⟩
                rw [← hzm] at hcx
                have HZ : Hid (zm = z0.getD m 0) := hzm
                have hg1 := HO.cell m hm
                have hg2 := HO.frozen m
                obtain ⟨y, hy⟩ : ∃ y, y = L.getD m 0 := ⟨_, rfl⟩
                rw [← hy] at hg1
                clear hzm hy
                go_wp2
                go_roundg (gk - 1)
                case measure => go_light; omega
                case rel =>
                  go_light
                  refine ⟨m + 1, L.set m zm, by omega, by go_num, HO.store m zm, fun j hj => ?_, hbel.setCell (Nat.le_refl _) _⟩
                  rw [Sl.getD_set L m j zm (by rw [HO.len]; exact hm)]
                  by_cases e : j = m
                  · rw [if_pos e, e]; exact HZ.out
                  · rw [if_neg e]; exact HL.out j (by omega)
              · go_wp2
                go_meet
                case rel =>
                  go_light
                  exact ⟨L, HO, fun j hj => HL.out j (by omega), hbel⟩
          case rest =>
            clear HO hbt
            obtain ⟨L, HO, HL, hbel⟩ := hcut
            have hexL : ∃ j, j < len ∧ Sl.stopAt L id j := by
              obtain ⟨j, hj, hs⟩ := HEX.out
              refine ⟨j, hj, ?_⟩
              unfold Sl.stopAt at hs ⊢
              rw [HL.out j hj]; exact hs
            clear HL HEX HC
            go_wp2_with fail
            refine (keyslot_n k len w.heap.size len L cnt (64 - k) id _ HP hk rfl HO.lt HO.cell hexL).mono ?_
            rintro e w2 ⟨r, rfl, hf, hb2⟩
            have hrn : r < len := hf.lt
            have HF : Hid (Sl.Found L len (Sl.home id k) id r) := hf
            have HO2 := HO.later hb2 HO.lt
            have hbel2 := hbel.trans (hb2.mono hbel.size)
            have HHL : Hid (Sl.home id k < len) := by show _ < _; rw [HP.out]; exact Sl.home_lt id k (by omega)
            clear hf hb2 HO hbel hexL
            go_wp2_with fail
            refine (fib_any id k _ hk).mono ?_
            rintro e w3 ⟨rfl, hw3⟩
            obtain rfl : w2 = w3 := hw3.symm
            generalize Sl.home id k = h at *
            have hhl : h < len := HHL.out
            go_wp2_with fail
            go_loopg [18, 19, 20] len (fun g bs bd j wr => wr = w2 ∧ ∃ (m : Nat) (best bd' : Int), m + g = len ∧ j = .int .i64 m ∧ bs = .int .i64 best ∧ bd = .int .i64 bd' ∧ Hid (Sl.Best L id len h m best bd'))
            case atStart => exact ⟨rfl, 0, -1, len, by omega, rfl, rfl, rfl, Sl.Best.start L id len h⟩
            case round =>
              obtain ⟨hwr, m, best, bd, hmg, rfl, rfl, rfl, HB⟩ := hrel
              obtain rfl : w2 = wr := hwr.symm
              by_cases hm : m < len
              · have hc := HO2.cell m hm
                obtain ⟨t, ht⟩ : ∃ t, t = L.getD m 0 := ⟨_, rfl⟩
                rw [← ht] at hc
                have HT : Hid (t = L.getD m 0) := ht
                clear ht
                by_cases hst : t ≠ 0 ∧ t ≠ id
                · have hb1 : (t != 0) = true := by simp [hst.1]
                  have hb2 : (t != id) = true := by simp [hst.2]
                  have HN : Hid (¬ Sl.stopAt L id m) := by
                    intro h
                    rcases h with h | h
                    · exact hst.1 (HT.out.trans h)
                    · exact hst.2 (HT.out.trans h)
                  clear hst
                  go_wp2
                  go_roundg (gk - 1)
                  case measure => go_light; omega
                  case rel => go_light; exact ⟨rfl, m + 1, best, bd, by omega, by go_num, rfl, rfl, HB.out.skip HN.out⟩
                · have HS : Hid (Sl.stopAt L id m) := by
                    show _ ∨ _
                    rw [← HT.out]
                    by_cases h : t = 0
                    · exact Or.inl h
                    · exact Or.inr (Classical.byContradiction fun h2 => hst ⟨h, h2⟩)
                  have hcase : (t != 0) = false ∨ ((t != 0) = true ∧ (t != id) = false) := by
                    by_cases h : t = 0
                    · exact Or.inl (by simp [h])
                    · exact Or.inr ⟨by simp [h], by simp [Classical.byContradiction fun h2 => hst ⟨h, h2⟩]⟩
                  clear hst
                  have hlen0 : 0 < len := by omega
                  rcases hcase with hA | ⟨hA, hA2⟩
                  all_goals
                    by_cases hhm : h ≤ m
                    · have HD : Hid ((Sl.dist len h m : Int) = (m : Int) - h) := by
                        show _ = _
                        rw [Sl.dist_lo len h m hm hhm]; omega
                      by_cases hlt : (m : Int) - h < bd
                      · go_wp2
                        go_roundg (gk - 1)
                        case measure => go_light; omega
                        case rel =>
                          go_light
                          refine ⟨rfl, m + 1, m, (m : Int) - h, by omega, by go_num, rfl, rfl, ?_⟩
                          rw [← HD.out]
                          exact HB.out.take HS.out (by rw [HD.out]; exact hlt)
                      · go_wp2
                        go_roundg (gk - 1)
                        case measure => go_light; omega
                        case rel => go_light; exact ⟨rfl, m + 1, best, bd, by omega, by go_num, rfl, rfl, HB.out.keep hlen0 (by rw [HD.out]; omega)⟩
                    · have HD : Hid ((Sl.dist len h m : Int) = (m : Int) - h + len) := by
                        show _ = _
                        rw [Sl.dist_hi len h m hhl (by omega)]; omega
                      by_cases hlt : (m : Int) - h + len < bd
                      · go_wp2
                        go_roundg (gk - 1)
                        case measure => go_light; omega
                        case rel =>
                          go_light
                          refine ⟨rfl, m + 1, m, (m : Int) - h + len, by omega, by go_num, rfl, rfl, ?_⟩
                          rw [← HD.out]
                          exact HB.out.take HS.out (by rw [HD.out]; exact hlt)
                      · go_wp2
                        go_roundg (gk - 1)
                        case measure => go_light; omega
                        case rel => go_light; exact ⟨rfl, m + 1, best, bd, by omega, by go_num, rfl, rfl, HB.out.keep hlen0 (by rw [HD.out]; omega)⟩
              · have hml : m = len := by omega
                subst hml
                have hbr : best = r := HB.out.done hhl HF.out
                subst hbr
                clear hm
                go_wp2
                go_ret
                exact ⟨rfl, hbel2⟩
    · have hsb : (sh != 64 - (k : Int)) = true := by simp [hs]
      go_wp2_with fail
      go_ret
      exact ⟨rfl, Below.refl _ _⟩

set_option maxRecDepth 100000 in
set_option maxHeartbeats 400000 in
theorem near_else (a0 : Option Addr) (len cap0 : Nat) (sh cnt id : Int) (w : World) (hl : len = 0 ∨ 131072 < len) (hm : len ≤ maxLen) :
    Calls Try.prog 7 #[.slice a0 len cap0, .int .u64 sh, .int .i64 cnt, .int .u64 id] w fun e w' => e = .returned (.bool true) ∧ Below w.heap.size w w' := by
  unfold maxLen at hm
  rcases hl with h | h
  · subst h
    go_enter Try.func7, Try.ntmps7
    go_wp2
    go_ret
    exact ⟨rfl, Below.refl _ _⟩
  · by_cases h2 : len ≤ 1048576
    · go_enter Try.func7, Try.ntmps7
      go_wp2
      go_ret
      exact ⟨rfl, Below.refl _ _⟩
    · go_enter Try.func7, Try.ntmps7
      go_wp2
      go_ret
      exact ⟨rfl, Below.refl _ _⟩

theorem near_any (a0 : Option Addr) (len cap0 : Nat) (z0 : List Int) (sh cnt id : Int) (w : World) (w0 : IsRow .u64 w a0 len cap0 z0) (w1 : (Lit.int .u64 sh).wf = true) :
    Calls Try.prog 7 #[.slice a0 len cap0, .int .u64 sh, .int .i64 cnt, .int .u64 id] w fun e w' => e = .returned (.bool true) ∧ Below w.heap.size w w' := by
  by_cases hl : len = 0 ∨ 131072 < len
  · refine near_else a0 len cap0 sh cnt id w hl ?_
    rcases w0 with ⟨_, rfl, _, _⟩ | ⟨_, _, h1, h2, _⟩
    · exact Nat.zero_le _
    · omega
  · rcases w0 with ⟨_, rfl, _, _⟩ | ⟨⟨b, off, spot⟩, rfl, h1, h2, h3, h4, _⟩
    · exact absurd (Or.inl rfl) hl
    · have hsp : spot = none := by simpa [Addr.add] using World.cell?_spot (h4 0 (by omega))
      subst hsp
      have hbs := bounds_u64 w1
      have hc : ∀ i, i < len → w.cell? ⟨b, off + i, none⟩ = some (.int .u64 (z0.getD i 0)) := fun i hi => by rw [← add_plain]; exact h4 i (by omega)
      exact near_walk b off len cap0 z0 sh cnt id w (by omega) (by omega) hbs.1 hbs.2 (World.block_lt_of_cell? w _ (hc 0 (by omega))) hc
end Go.Proofs.Qxb6601348a
