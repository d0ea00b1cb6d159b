/-
  THE WALK OF 'FnSlotScriptFindsEveryInsertedKey' (function 8), cut at each of its loops; the plain law lies in Qxb6601348aSlotPlain ('Sl.Inv').
-/
import Derived.Test.Qxb6601348aSlotWalk
import Derived.Test.Qxb6601348aOwn
import Derived.Deep.DeepCutAuto
import Derived.Deep.CutBlock
import Derived.Deep.Light
import Derived.Deep.QuietTactic
import Derived.WalkSpells
import Derived.WalkSmall
namespace Go.Proofs.Qxb6601348a
open Go.ChangeShapes Go.WideShapes Go.ChangeAt Go.RowKit

set_option maxRecDepth 100000 in
set_option maxHeartbeats 1000000 in
theorem script_walk (a0 : Option Addr) (len cap0 : Nat) (z0 : List Int) (q : Int) (w : World) (w0 : IsRow .u64 w a0 len cap0 z0) (hlen : len ≤ 4096) :
    Calls Try.prog 8 #[.slice a0 len cap0, .int .u64 q] w fun e w' => e = .returned (.bool true) ∧ Below w.heap.size w w' := by
  obtain ⟨i0, hi, hz0, hz1, hz2⟩ := info_parts Try.info29
  have hne := fun w => run_neq_slice_nil_any (P := Try.prog) w 27 29 a0 len cap0 0 0 Try.underlying27
  have hby : i0.bytes * len ≤ 281474976710656 := by rw [hz2]; omega
  have hml : len ≤ maxLen := by unfold maxLen; omega
  go_enter Try.func8, Try.ntmps8
  go_upto_if 34 with (go_in)
  go_cut [0] (fun v wr => ∃ ao c, v = .slice ao len c ∧ (0 < len → ∃ g, ao = some ⟨g, 0, none⟩ ∧ g < wr.heap.size ∧ ∀ j, j < len → wr.cell? ⟨g, j, none⟩ = some (.int .u64 (z0.getD j 0))) ∧ Below w.heap.size w wr)
  case first =>
    rcases w0 with ⟨rfl, rfl, rfl, rfl⟩ | ⟨⟨b, off, spot⟩, rfl, hlc, hcm, hzl, hcell, _⟩
    · go_wp2_with fail
      go_meet
      case rel => exact ⟨none, 0, rfl, fun h => absurd h (by omega), Below.refl _ _⟩
    · go_wp2_with (at_make; refine wpList_make_full _ rfl _ _ 27 rfl w.heap.size 29 i0 (.int .u64 0) 1 Try.underlying27 hi hz0 hz1 _ _ _ _ len rfl rfl rfl rfl hby hml (Nat.le_refl _) ?_; intro w1 hown hgrow)
      go_loopg [6] len (fun g i wr => ∃ (k : Nat) (L : List Int), k + g = len ∧ i = .int .i64 k ∧ Own wr w.heap.size len L ∧ Hid (∀ j, j < k → L.getD j 0 = z0.getD j 0) ∧ Below w.heap.size w wr)
      case atStart => exact ⟨0, _, by omega, rfl, Own.made hown, (fun j hj => by omega), (Below.refl _ _).grown hgrow (Nat.le_refl _) (fun k h => by cases h)⟩
      case round =>
        obtain ⟨k, L, hkg, rfl, HO, HL, hbel⟩ := hrel
        clear hown hgrow hne
        by_cases hk : k < len
        · have hsp : spot = none := by simpa [Addr.add] using World.cell?_spot (hcell 0 (by omega))
          subst hsp
          have hcw : w.cell? ⟨b, off + k, none⟩ = some (.int .u64 (z0.getD k 0)) := by rw [← add_plain]; exact hcell k (by omega)
          have hcx : wr.cell? ⟨b, off + k, none⟩ = some (.int .u64 (z0.getD k 0)) := (hbel.cell (World.block_lt_of_cell? w _ hcw)).trans hcw
          obtain ⟨zk, hzk⟩ : ∃ zk, zk = z0.getD k 0 := ⟨_, rfl⟩
          rw [← hzk] at hcx
          have HZ : Hid (zk = z0.getD k 0) := hzk
          have hg1 := HO.cell k hk
          have hg2 := HO.frozen k
          obtain ⟨y, hy⟩ : ∃ y, y = L.getD k 0 := ⟨_, rfl⟩
          rw [← hy] at hg1
          clear hcell hcw hzk hy
          go_wp2
          go_roundg (gk - 1)
          case measure => go_light; omega
          case rel =>
            go_light
            refine ⟨k + 1, L.set k zk, by omega, by go_num, HO.store k zk, fun j hj => ?_, hbel.setCell (Nat.le_refl _) _⟩
            rw [Sl.getD_set L k j zk (by rw [HO.len]; exact hk)]
            by_cases e : j = k
            · rw [if_pos e, e]; exact HZ.out
            · rw [if_neg e]; exact HL.out j (by omega)
        · go_wp2
          go_meet
          case rel =>
            go_light
            exact ⟨_, _, rfl, fun _ => ⟨w.heap.size, rfl, HO.lt, fun j hj => by rw [HO.cell j hj, HL.out j (by omega)]⟩, hbel⟩
  case rest =>
    obtain ⟨ao, c, rfl, hids, hbel⟩ := hcut
    clear w0 hne hby hml
    go_upto_block 2 with fail
    go_cut [7] (fun kk wr => wr = wc ∧ ∃ k : Nat, k ≤ 13 ∧ kk = .int .u64 k ∧ Hid (2 * len ≤ 2 ^ k))
    case first =>
      go_wp2_with fail
      go_loopg [7] 13 (fun g kk wr => wr = wc ∧ ∃ k : Nat, k + g = 13 ∧ kk = .int .u64 k)
      case atStart => exact ⟨rfl, 0, rfl, rfl⟩
      case round =>
        obtain ⟨rfl, k, hkg, rfl⟩ := hrel
        have hw : wrap64 (2 ^ k) = ((2 ^ k : Nat) : Int) := Sl.wrap_pow k (by omega)
        obtain ⟨m, hm⟩ : ∃ m : Nat, m = 2 ^ k := ⟨_, rfl⟩
        have hm2 : 2 ^ k ≤ 2 ^ 13 := Nat.pow_le_pow_right (by omega) (by omega)
        have HM : Hid (k < 13 ∨ m = 8192) := by
          by_cases hk : k < 13
          · exact Or.inl hk
          · have : k = 13 := by omega
            subst this; exact Or.inr hm
        rw [← hm] at hw hm2
        have HP : Hid (m = 2 ^ k) := hm
        clear hm
        by_cases ht : m < 2 * len
        · go_wp2
          go_roundg (gk - 1)
          case measure => go_light; rcases HM.out with h | h <;> omega
          case rel => go_light; exact ⟨rfl, k + 1, by rcases HM.out with h | h <;> omega, by go_num⟩
        · go_wp2
          go_meet
          case rel => go_light; exact ⟨rfl, k, by omega, rfl, by have := HP.out; show _ ≤ _; omega⟩
    case rest =>
      obtain ⟨rfl, k, hk, rfl, HK⟩ := hcut
      have hw : wrap64 (2 ^ k) = ((2 ^ k : Nat) : Int) := Sl.wrap_pow k (by omega)
      have hm2 : 2 ^ k ≤ 2 ^ 13 := Nat.pow_le_pow_right (by omega) (by omega)
      have hm1 : 1 ≤ 2 ^ k := Nat.two_pow_pos _
      obtain ⟨n, hn⟩ : ∃ n : Nat, n = 2 ^ k := ⟨_, rfl⟩
      rw [← hn] at hw hm2 hm1 HK
      have hK := HK.out
      have HP : Hid (n = 2 ^ k) := hn
      clear hn HK
      have hby : i0.bytes * n ≤ 281474976710656 := by rw [hz2]; omega
      have hml : n ≤ maxLen := by unfold maxLen; omega
      go_upto_region 17 with fail
      simp only [hw]
      clear hw
      go_upto_block 4 with (at_make; refine wpList_make_full _ rfl _ _ 27 rfl wc.heap.size 29 i0 (.int .u64 0) 1 Try.underlying27 hi hz0 hz1 _ _ _ _ n rfl rfl rfl rfl hby hml (Nat.le_refl _) ?_; intro w1 hown hgrow)
      have HO := Own.made hown
      have hbt : Below wc.heap.size wc w1 := (Below.refl _ _).grown hgrow (Nat.le_refl _) (fun k h => by cases h)
      clear hown hgrow hi hz0 hz1 hz2 hby hml
      obtain ⟨wt, hwt⟩ : ∃ wt, wt = wc := ⟨_, rfl⟩
      subst hwt
      go_cut [11, 12] (fun c i wr => ∃ (T : List Int) (cnt : Nat), i = .int .i64 len ∧ c = .int .i64 cnt ∧ Hid (Sl.Inv z0 k len T cnt) ∧ cnt ≤ len ∧ Own wr wt.heap.size n T ∧ Below wt.heap.size wt wr)
      case first =>
        go_wp2_with fail
        go_loopg [11, 12] len (fun g c i wr => ∃ (m cnt : Nat) (T : List Int), m + g = len ∧ i = .int .i64 m ∧ c = .int .i64 cnt ∧ Hid (Sl.Inv z0 k m T cnt) ∧ cnt ≤ m ∧ Own wr wt.heap.size n T ∧ Below wt.heap.size wt wr)
        case atStart => exact ⟨0, 0, _, by omega, rfl, rfl, (by show Sl.Inv _ _ _ _ _; rw [HP.out]; exact Sl.Inv.start z0 k), Nat.le_refl _, HO, hbt⟩
        case round =>
          clear HO
          obtain ⟨m, cnt, T, hmg, rfl, rfl, HI, hcm, HO, hbw⟩ := hrel
          by_cases hm : m < len
          · obtain ⟨g, rfl, hg1, hgc⟩ := hids (by omega)
            have hcx : wr.cell? ⟨g, m, none⟩ = some (.int .u64 (z0.getD m 0)) := (hbw.cell hg1).trans (hgc m hm)
            obtain ⟨x, hx⟩ : ∃ x, x = z0.getD m 0 := ⟨_, rfl⟩
            rw [← hx] at hcx
            have HX : Hid (x = z0.getD m 0) := hx
            clear hx hids hgc
            by_cases hx0 : x = 0
            · have hxb : (x == 0) = true := by simp [hx0]
              have HX0 : Hid (x = 0) := hx0
              clear hx0
              go_wp2
              go_roundg (gk - 1)
              case measure => go_light; omega
              case rel =>
                go_light
                exact ⟨m + 1, cnt, T, by omega, by go_num, rfl, HI.out.skip (by rw [← HX.out]; exact HX0.out), by omega, HO, hbw⟩
            · have hxb : (x == 0) = false := by simp [hx0]
              have hfree : ∃ j, j < n ∧ Sl.stopAt T x j := by
                have := HI.out.free (by rw [← HP.out]; omega) x
                rw [← HP.out] at this; exact this
              go_wp2_with fail
              refine (keyslot_n k n wt.heap.size n T cnt (64 - k) x _ HP (by omega) rfl HO.lt HO.cell hfree).mono ?_
              rintro e w2 ⟨r, rfl, hf, hb2⟩
              have HF : Hid (Sl.Found T (2 ^ k) (Sl.home (z0.getD m 0) k) (z0.getD m 0) r) := by
                show Sl.Found _ _ _ _ _
                rw [← HP.out, ← HX.out]; exact hf
              have hrn : r < n := hf.lt
              have HO2 := HO.later hb2 HO.lt
              have hbw2 := hbw.trans (hb2.mono (Nat.le_of_lt HO.lt))
              have hcr := HO2.cell r hrn
              have hfr := HO2.frozen r
              have HS : Hid (T.getD r 0 = 0 ∨ T.getD r 0 = x) := hf.stop
              clear hf hb2 HO hbw hcx hfree
              by_cases ht : T.getD r 0 = 0
              · rw [ht] at hcr
                have HT : Hid (T.getD r 0 = 0) := ht
                clear ht
                go_wp2
                go_roundg (gk - 1)
                case measure => go_light; omega
                case rel =>
                  go_light
                  refine ⟨m + 1, cnt + 1, T.set r x, by omega, by go_num, by go_num, ?_, by omega, HO2.store r x, hbw2.setCell (Nat.le_refl _) _⟩
                  rw [HX.out]
                  exact HI.out.put (by rw [← HX.out]; exact hx0) HF.out HT.out
              · have ht2 : T.getD r 0 = x := by rcases HS.out with h | h; exact absurd h ht; exact h
                rw [ht2] at hcr
                have HT : Hid (T.getD r 0 ≠ 0) := ht
                clear ht ht2
                go_wp2
                go_roundg (gk - 1)
                case measure => go_light; omega
                case rel =>
                  go_light
                  exact ⟨m + 1, cnt, T, by omega, by go_num, rfl, HI.out.again (by rw [← HX.out]; exact hx0) HF.out HT.out, by omega, HO2, hbw2⟩
          · go_wp2
            go_meet
            case rel =>
              go_light
              have : m = len := by omega
              subst this
              exact ⟨T, cnt, rfl, rfl, HI, hcm, HO, hbw⟩
      case rest =>
        clear HO hbt
        obtain ⟨T, cnt, rfl, rfl, HI, hcl, HO, hbw⟩ := hcut
        go_upto_block 6 with fail
        go_cut [15] (fun i wr => i = .int .i64 len ∧ Own wr wt.heap.size n T ∧ Below wt.heap.size wt wr)
        case first =>
          go_wp2_with fail
          go_loopg [15] len (fun g i wr => ∃ m : Nat, m + g = len ∧ i = .int .i64 m ∧ Own wr wt.heap.size n T ∧ Below wt.heap.size wt wr)
          case atStart => exact ⟨0, by omega, rfl, HO, hbw⟩
          case round =>
            clear HO hbw
            obtain ⟨m, hmg, rfl, HO, hbw⟩ := hrel
            by_cases hm : m < len
            · obtain ⟨g, rfl, hg1, hgc⟩ := hids (by omega)
              have hcx : wr.cell? ⟨g, m, none⟩ = some (.int .u64 (z0.getD m 0)) := (hbw.cell hg1).trans (hgc m hm)
              obtain ⟨x, hx⟩ : ∃ x, x = z0.getD m 0 := ⟨_, rfl⟩
              rw [← hx] at hcx
              have HX : Hid (x = z0.getD m 0) := hx
              clear hx hids hgc
              by_cases hx0 : x = 0
              · have hxb : (x == 0) = true := by simp [hx0]
                clear hx0
                go_wp2
                go_roundg (gk - 1)
                case measure => go_light; omega
                case rel =>
                  go_light
                  exact ⟨m + 1, by omega, by go_num, HO, hbw⟩
              · have hxb : (x == 0) = false := by simp [hx0]
                have hfree : ∃ j, j < n ∧ Sl.stopAt T x j := by
                  have := HI.out.free (by rw [← HP.out]; omega) x
                  rw [← HP.out] at this; exact this
                go_wp2_with fail
                refine (keyslot_n k n wt.heap.size n T cnt (64 - k) x _ HP (by omega) rfl HO.lt HO.cell hfree).mono ?_
                rintro e w2 ⟨r, rfl, hf, hb2⟩
                have HF : Sl.Found T (2 ^ k) (Sl.home (z0.getD m 0) k) (z0.getD m 0) r := by
                  rw [← HP.out, ← HX.out]; exact hf
                have hrn : r < n := hf.lt
                have HO2 := HO.later hb2 HO.lt
                have hbw2 := hbw.trans (hb2.mono (Nat.le_of_lt HO.lt))
                have hcr := HO2.cell r hrn
                have ht : T.getD r 0 = x := by rw [HX.out]; exact HI.out.seen hm (by rw [← HX.out]; exact hx0) HF
                rw [ht] at hcr
                clear hf hb2 HO hbw hcx hfree ht HF
                go_wp2
                go_roundg (gk - 1)
                case measure => go_light; omega
                case rel =>
                  go_light
                  exact ⟨m + 1, by omega, by go_num, HO2, hbw2⟩
            · go_wp2
              go_meet
              case rel =>
                go_light
                have : m = len := by omega
                subst this
                exact ⟨rfl, HO, hbw⟩
        case rest =>
          clear HO hbw
          obtain ⟨rfl, HO, hbw⟩ := hcut
          obtain ⟨w3, hw3⟩ : ∃ w3, w3 = wc := ⟨_, rfl⟩
          subst hw3
          go_upto_block 8 with fail
          go_cut [18, 19] (fun o j wr => wr = w3 ∧ j = .int .i64 n ∧ o = .int .i64 cnt)
          case first =>
            go_wp2_with fail
            go_loopg [18, 19] n (fun g o j wr => wr = w3 ∧ ∃ m oc : Nat, m + g = n ∧ j = .int .i64 m ∧ o = .int .i64 oc ∧ oc ≤ m ∧ Hid (oc = Sl.occTo T m))
            case atStart => exact ⟨rfl, 0, 0, by omega, rfl, rfl, Nat.le_refl _, rfl⟩
            case round =>
              obtain ⟨rfl, m, oc, hmg, rfl, rfl, hom, HC⟩ := hrel
              by_cases hm : m < n
              · have hcr := HO.cell m hm
                obtain ⟨t, ht⟩ : ∃ t, t = T.getD m 0 := ⟨_, rfl⟩
                rw [← ht] at hcr
                have HT : Hid (t = T.getD m 0) := ht
                clear ht
                by_cases ht0 : t = 0
                · have htb : (t != 0) = false := by simp [ht0]
                  have HT0 : Hid (t = 0) := ht0
                  clear ht0
                  go_wp2
                  go_roundg (gk - 1)
                  case measure => go_light; omega
                  case rel =>
                    go_light
                    refine ⟨rfl, m + 1, oc, by omega, by go_num, rfl, by omega, ?_⟩
                    show _ = Sl.occTo T m + _
                    rw [if_pos (by rw [← HT.out]; exact HT0.out), HC.out, Nat.add_zero]
                · have htb : (t != 0) = true := by simp [ht0]
                  go_wp2
                  go_roundg (gk - 1)
                  case measure => go_light; omega
                  case rel =>
                    go_light
                    refine ⟨rfl, m + 1, oc + 1, by omega, by go_num, by go_num, by omega, ?_⟩
                    show _ = Sl.occTo T m + _
                    rw [if_neg (by rw [← HT.out]; exact ht0), HC.out]
              · go_wp2
                go_meet
                case rel =>
                  go_light
                  have : m = n := by omega
                  subst this
                  refine ⟨rfl, rfl, ?_⟩
                  rw [HC.out, HP.out, HI.out.occ]
          case rest =>
            obtain ⟨rfl, rfl, rfl⟩ := hcut
            go_upto_block 10 with fail
            go_cut [20, 21] (fun d i wr => i = .int .i64 len ∧ d = .int .i64 cnt ∧ Own wr wt.heap.size n T ∧ Below wt.heap.size wt wr)
            case first =>
              go_wp2_with fail
              go_loopg [20, 21] len (fun g d i wr => ∃ m dc : Nat, m + g = len ∧ i = .int .i64 m ∧ d = .int .i64 dc ∧ dc ≤ m ∧ Hid (dc = Sl.distinctTo z0 m) ∧ Own wr wt.heap.size n T ∧ Below wt.heap.size wt wr)
              case atStart => exact ⟨0, 0, by omega, rfl, rfl, Nat.le_refl _, rfl, HO, hbw⟩
              case round =>
                clear HO hbw
                obtain ⟨m, dc, hmg, rfl, rfl, hdm, HD, HO, hbw⟩ := hrel
                by_cases hm : m < len
                · obtain ⟨g, rfl, hg1, hgc⟩ := hids (by omega)
                  have hcx : wr.cell? ⟨g, m, none⟩ = some (.int .u64 (z0.getD m 0)) := (hbw.cell hg1).trans (hgc m hm)
                  obtain ⟨x, hx⟩ : ∃ x, x = z0.getD m 0 := ⟨_, rfl⟩
                  rw [← hx] at hcx
                  have HX : Hid (x = z0.getD m 0) := hx
                  have HG : Hid (∀ j, j < len → wt.cell? ⟨g, j, none⟩ = some (.int .u64 (z0.getD j 0))) := hgc
                  clear hx hids hgc
                  by_cases hx0 : x = 0
                  · have hxb : (x == 0) = true := by simp [hx0]
                    have HX0 : Hid (x = 0) := hx0
                    clear hx0
                    go_wp2
                    go_roundg (gk - 1)
                    case measure => go_light; omega
                    case rel =>
                      go_light
                      refine ⟨m + 1, dc, by omega, by go_num, rfl, by omega, ?_, HO, hbw⟩
                      show _ = Sl.distinctTo z0 m + _
                      rw [if_neg (by rw [Sl.isNew_iff]; intro hc; exact hc.1 (by rw [← HX.out]; exact HX0.out)), HD.out, Nat.add_zero]
                  · have hxb : (x == 0) = false := by simp [hx0]
                    go_upto_block 12 with fail
                    go_cut [22, 23] (fun s j wx => ∃ b : Bool, s = .bool b ∧ Hid (b = false ↔ ∀ a, a < m → z0.getD a 0 ≠ z0.getD m 0) ∧ Own wx wt.heap.size n T ∧ Below wt.heap.size wt wx)
                    case first =>
                      go_wp2_with fail
                      go_loopg [22, 23] m (fun g2 s j wx => ∃ p : Nat, p + g2 = m ∧ j = .int .i64 p ∧ s = .bool false ∧ Hid (∀ a, a < p → z0.getD a 0 ≠ z0.getD m 0) ∧ Own wx wt.heap.size n T ∧ Below wt.heap.size wt wx)
                      case atStart => exact ⟨0, by omega, rfl, rfl, (fun a ha => by omega), HO, hbw⟩
                      case round =>
                        clear HO hbw hcx
                        obtain ⟨p, hpg, rfl, rfl, HA, HO, hbw⟩ := hrel
                        by_cases hp : p < m
                        · have hcp : wr.cell? ⟨g, p, none⟩ = some (.int .u64 (z0.getD p 0)) := (hbw.cell hg1).trans (HG.out p (by omega))
                          have hcm : wr.cell? ⟨g, m, none⟩ = some (.int .u64 (z0.getD m 0)) := (hbw.cell hg1).trans (HG.out m (by omega))
                          obtain ⟨y, hy⟩ : ∃ y, y = z0.getD p 0 := ⟨_, rfl⟩
                          rw [← hy] at hcp
                          rw [← HX.out] at hcm
                          have HY : Hid (y = z0.getD p 0) := hy
                          clear hy
                          have hpl : (p : Int) < (len : Int) := by omega
                          have hml : (m : Int) < (len : Int) := by omega
                          by_cases hyx : y = x
                          · have hyb : (y == x) = true := by simp [hyx]
                            have HYX : Hid (y = x) := hyx
                            clear hyx
                            go_wp2_with fail
                            go_quiet (fail)
                            go_wp2
                            go_meet
                            case rel =>
                              go_light
                              refine ⟨true, rfl, ⟨fun h => (by cases h), fun h => absurd (HY.out.symm.trans (HYX.out.trans HX.out)) (h p hp)⟩, HO.later (below_drewN (Below.refl (wt.heap.size + 1) _) _) (Nat.lt_succ_self _), below_drewN hbw _⟩
                          · have hyb : (y == x) = false := by simp [hyx]
                            go_wp2_with fail
                            go_quiet (fail)
                            go_wp2
                            go_roundg (gk - 1)
                            case measure => go_light; omega
                            case rel =>
                              go_light
                              refine ⟨p + 1, by omega, by go_num, rfl, fun a ha => ?_, HO.later (below_drewN (Below.refl (wt.heap.size + 1) _) _) (Nat.lt_succ_self _), below_drewN hbw _⟩
                              by_cases e : a = p
                              · rw [e, ← HY.out, ← HX.out]; exact hyx
                              · exact HA.out a (by omega)
                        · go_wp2
                          go_meet
                          case rel =>
                            go_light
                            refine ⟨false, rfl, ⟨fun _ a ha => HA.out a (by omega), fun _ => rfl⟩, HO, hbw⟩
                    case rest =>
                      clear HO hbw hcx
                      obtain ⟨bb, rfl, HB, HO, hbw⟩ := hcut
                      cases bb with
                      | true =>
                        go_wp2
                        go_roundg (gk - 1)
                        case measure => go_light; omega
                        case rel =>
                          go_light
                          refine ⟨m + 1, dc, by omega, by go_num, rfl, by omega, ?_, HO, hbw⟩
                          show _ = Sl.distinctTo z0 m + _
                          rw [if_neg (by rw [Sl.isNew_iff]; intro hc; have := HB.out.2 hc.2; cases this), HD.out, Nat.add_zero]
                      | false =>
                        go_wp2
                        go_roundg (gk - 1)
                        case measure => go_light; omega
                        case rel =>
                          go_light
                          refine ⟨m + 1, dc + 1, by omega, by go_num, by go_num, by omega, ?_, HO, hbw⟩
                          show _ = Sl.distinctTo z0 m + _
                          rw [if_pos (by rw [Sl.isNew_iff]; exact ⟨by rw [← HX.out]; exact hx0, HB.out.1 (by simp)⟩), HD.out]
                · go_wp2
                  go_meet
                  case rel =>
                    go_light
                    have : m = len := by omega
                    subst this
                    refine ⟨rfl, ?_, HO, hbw⟩
                    rw [HD.out, HI.out.dis]
            case rest =>
              clear HO hbw
              obtain ⟨rfl, rfl, HO, hbw⟩ := hcut
              have hcc : (cnt == cnt) = true := by simp
              by_cases hq : q = 0
              · have hqb : (q == 0) = true := by simp [hq]
                clear hq
                go_wp2
                go_ret
                exact ⟨rfl, hbel.trans (hbw.mono hbel.size)⟩
              · have hqb : (q == 0) = false := by simp [hq]
                obtain ⟨w4, hw4⟩ : ∃ w4, w4 = wc := ⟨_, rfl⟩
                subst hw4
                go_wp2
                go_loopg [24] len (fun g i wr => wr = w4 ∧ ∃ m : Nat, m + g = len ∧ i = .int .i64 m ∧ Hid (∀ a, a < m → z0.getD a 0 ≠ q))
                case atStart => exact ⟨rfl, 0, by omega, rfl, fun a ha => by omega⟩
                case round =>
                  obtain ⟨rfl, m, hmg, rfl, HA⟩ := hrel
                  by_cases hm : m < len
                  · obtain ⟨g, rfl, hg1, hgc⟩ := hids (by omega)
                    have hcx : wr.cell? ⟨g, m, none⟩ = some (.int .u64 (z0.getD m 0)) := (hbw.cell hg1).trans (hgc m hm)
                    obtain ⟨x, hx⟩ : ∃ x, x = z0.getD m 0 := ⟨_, rfl⟩
                    rw [← hx] at hcx
                    have HX : Hid (x = z0.getD m 0) := hx
                    clear hx hids hgc
                    by_cases hxq : x = q
                    · have hxb : (x == q) = true := by simp [hxq]
                      clear hxq
                      go_wp2
                      go_ret
                      exact ⟨rfl, hbel.trans (hbw.mono hbel.size)⟩
                    · have hxb : (x == q) = false := by simp [hxq]
                      go_wp2
                      go_roundg (gk - 1)
                      case measure => go_light; omega
                      case rel =>
                        go_light
                        refine ⟨rfl, m + 1, by omega, by go_num, fun a ha => ?_⟩
                        by_cases e : a = m
                        · rw [e, ← HX.out]; exact hxq
                        · exact HA.out a (by omega)
                  · have hfree : ∃ j, j < n ∧ Sl.stopAt T q j := by
                      have := HI.out.free (by rw [← HP.out]; omega) q
                      rw [← HP.out] at this; exact this
                    go_wp2_with fail
                    refine (keyslot_n k n wt.heap.size n T cnt (64 - k) q _ HP (by omega) rfl HO.lt HO.cell hfree).mono ?_
                    rintro e w2 ⟨r, rfl, hf, hb2⟩
                    have hrn : r < n := hf.lt
                    have HO2 := HO.later hb2 HO.lt
                    have hbw2 := hbw.trans (hb2.mono (Nat.le_of_lt HO.lt))
                    have hcr := HO2.cell r hrn
                    have ht : T.getD r 0 = 0 := HI.out.unseen hq (fun a ha => HA.out a (by omega)) hf.stop
                    rw [ht] at hcr
                    clear hf hb2 HO hbw hfree ht
                    go_wp2
                    go_ret
                    exact ⟨rfl, hbel.trans (hbw2.mono hbel.size)⟩

set_option maxRecDepth 100000 in
set_option maxHeartbeats 400000 in
theorem script_long (a0 : Option Addr) (len cap0 : Nat) (q : Int) (w : World) (hlen : 4096 < len) (hm : len ≤ maxLen) :
    Calls Try.prog 8 #[.slice a0 len cap0, .int .u64 q] w fun e w' => e = .returned (.bool true) ∧ Below w.heap.size w w' := by
  unfold maxLen at hm
  by_cases h : len ≤ 1048576
  · go_enter Try.func8, Try.ntmps8
    go_wp2
    go_ret
    exact ⟨rfl, Below.refl _ _⟩
  · go_enter Try.func8, Try.ntmps8
    go_wp2
    go_ret
    exact ⟨rfl, Below.refl _ _⟩

theorem script_any (a0 : Option Addr) (len cap0 : Nat) (z0 : List Int) (q : Int) (w : World) (w0 : IsRow .u64 w a0 len cap0 z0) :
    Calls Try.prog 8 #[.slice a0 len cap0, .int .u64 q] w fun e w' => e = .returned (.bool true) ∧ Below w.heap.size w w' := by
  by_cases hlen : len ≤ 4096
  · exact script_walk a0 len cap0 z0 q w w0 hlen
  · refine script_long a0 len cap0 q w (by omega) ?_
    rcases w0 with ⟨_, rfl, _, _⟩ | ⟨_, _, h1, h2, _⟩
    · exact Nat.zero_le _
    · omega
end Go.Proofs.Qxb6601348a
