/-
  THE WALKS OF FOLDING: 'foldCase' (27), 'zzUpperIndex' (14), 'zzLetterIndex' (25), 'folded' (24), 'ZZFolded' (13), 'zzCaselessEqual' (17), and the two laws over them (functions 4 and 6). The plain laws lie in Qxb6601348aFoldPlain.
-/
import Derived.Test.Qxb6601348aRows
import Derived.Test.Qxb6601348aFoldPlain
import Derived.WalkKit
import Derived.ProofKit
import Derived.Below
import Derived.Deep.DeepCutAuto
import Derived.Deep.CutBlock
import Derived.Deep.Light
import Derived.Deep.QuietTactic
import Derived.BigQuiet
import Derived.WalkSpells
import Derived.WalkSmall
import Derived.Laws.IdiomStrings
import Derived.Laws.BytesArg
namespace Go.Proofs.Qxb6601348a
open Go.RowKit

theorem ret_k {k : IntKind} {a b : Int} (h : a = b) : Ending.returned (.int k a) = .returned (.int k b) := by rw [h]

theorem foldCase_any (c : Int) (w : World) (h0 : 0 ≤ c) (h1 : c ≤ 255) : Calls Try.prog 27 #[.int .u8 c] w fun e w' => e = .returned (.int .u8 (Fo.foldI c)) ∧ w' = w := by
  have HF : Hid (Fo.foldI c = if 65 ≤ c ∧ c ≤ 90 then c + 32 else c) := rfl
  generalize Fo.foldI c = y at *
  by_cases ha : 65 ≤ c
  · by_cases hb : c ≤ 90
    · go_enter Try.func27, Try.ntmps27
      go_wp2
      go_ret
      exact ⟨ret_k (by rw [HF.out, if_pos ⟨ha, hb⟩]; omega), rfl⟩
    · go_enter Try.func27, Try.ntmps27
      go_wp2
      go_ret
      exact ⟨ret_k (by rw [HF.out, if_neg (by omega)]), rfl⟩
  · have hd : decide ((65 : Int) ≤ c) = false := by simpa using ha
    go_enter Try.func27, Try.ntmps27
    go_wp2
    go_ret
    exact ⟨ret_k (by rw [HF.out, if_neg (by omega)]), rfl⟩

theorem up_lit (k : Nat) (h : k < 26) : ((({ data := #[65, 66, 67, 68, 69, 70, 71, 72, 73, 74, 75, 76, 77, 78, 79, 80, 81, 82, 83, 84, 85, 86, 87, 88, 89, 90] } : ByteArray)[k]'h).toNat : Int) = 65 + k := by
  have : ∀ k : Fin 26, ((({ data := #[65, 66, 67, 68, 69, 70, 71, 72, 73, 74, 75, 76, 77, 78, 79, 80, 81, 82, 83, 84, 85, 86, 87, 88, 89, 90] } : ByteArray)[k.val]'k.isLt).toNat : Int) = 65 + (k.val : Int) := by decide
  exact this ⟨k, h⟩

theorem upper_any (c : Int) (w : World) (h0 : 0 ≤ c) (h1 : c ≤ 255) : Calls Try.prog 14 #[.int .u8 c] w fun e w' => e = .returned (.int .i64 (Fo.upI c)) ∧ w' = w := by
  have HF : Hid (Fo.upI c = if 65 ≤ c ∧ c ≤ 90 then c - 65 else -1) := rfl
  generalize Fo.upI c = y at *
  go_enter Try.func14, Try.ntmps14
  go_wp2
  go_loopg [3] 26 (fun g i wr => wr = w ∧ ∃ k : Nat, k + g = 26 ∧ i = .int .i64 k ∧ Hid (∀ j : Nat, j < k → c ≠ 65 + j))
  case atStart => exact ⟨rfl, 0, rfl, rfl, fun j hj => by omega⟩
  case round =>
    obtain ⟨rfl, k, hkg, rfl, HA⟩ := hrel
    by_cases hk : k < 26
    · have hl := up_lit k hk
      go_wp2
      · go_ret
        have he : (65 + (k : Int) == c) = true := by assumption
        have he' : 65 + (k : Int) = c := by simpa using he
        exact ⟨ret_k (by rw [HF.out, if_pos (by omega)]; omega), rfl⟩
      · have he : (65 + (k : Int) == c) = false := by assumption
        have HE : Hid (¬ 65 + (k : Int) = c) := by show ¬ _; simpa using he
        go_roundg (gk - 1)
        case measure => go_light; omega
        case rel =>
          go_light
          refine ⟨rfl, k + 1, by omega, by go_num, fun j hj => ?_⟩
          by_cases e : j = k
          · rw [e]; exact fun h => HE.out h.symm
          · exact HA.out j (by omega)
    · go_wp2
      go_ret
      refine ⟨ret_k ?_, rfl⟩
      rw [HF.out, if_neg]
      intro hc
      exact HA.out (c - 65).toNat (by omega) (by omega)

/-- A row of bytes of the call's own, told by a list of numbers. -/
def Bys (w : World) (g n : Nat) (L : List Int) : Prop := L.length = n ∧ (∀ j, j < n → w.cell? ⟨g, j, none⟩ = some (.int .u8 (L.getD j 0))) ∧ ∀ j, j < n → w.frozen? ⟨g, j, none⟩ = false

theorem set_get (L : List Int) (p j : Nat) (v : Int) (hp : p < L.length) : (L.set p v).getD j 0 = if j = p then v else L.getD j 0 := by
  by_cases h : j = p
  · subst h; simp [hp]
  · rw [if_neg h]; simp [Ne.symm h]

theorem Bys.store {w : World} {g n : Nat} {L : List Int} (h : Bys w g n L) (p : Nat) (v : Int) (hp : p < n) : Bys (w.setCell ⟨g, p, none⟩ (.int .u8 v)) g n (L.set p v) := by
  obtain ⟨hl, hc, hf⟩ := h
  refine ⟨by rw [List.length_set]; exact hl, fun j hj => ?_, fun j hj => by rw [World.frozen?_setCell]; exact hf j hj⟩
  rw [set_get L p j v (by omega)]
  by_cases e : j = p
  · rw [if_pos e, e]; exact World.cell?_setCell_same w _ _ (hc p hp)
  · rw [if_neg e, World.cell?_setCell_other w _ _ _ (fun h => e (by injection h with _ h2; exact h2.symm))]; exact hc j hj

theorem Bys.new (w : World) (s : ByteArray) (cap : Nat) (e : TypeId) : Bys (w.alloc (.cells (bytesRow s cap) e ((bytesRow s cap).size, (bytesRow s cap).size + 1))) w.heap.size s.size (Fo.bytes s) := by
  refine ⟨Fo.bytes_length s, fun j hj => ?_, fun j hj => ?_⟩
  · rw [World.cell?_alloc_mark, bytesRow_at s cap j hj, Fo.bytes_get s j hj]; rfl
  · rw [World.frozen?_alloc_mark]
    have : s.size ≤ (bytesRow s cap).size := by unfold bytesRow; rw [Array.size_append, Array.size_map]; exact Nat.le_add_right _ _
    simp; omega

set_option maxHeartbeats 1000000 in
theorem folded_any (s : ByteArray) (w : World) (hs : s.size ≤ 1048576) : Calls Try.prog 24 #[.string s] w fun e w' => e = .returned (.string (Fo.foldS s)) ∧ Below w.heap.size w w' := by
  have kc := fun w => run_bytes_of_string (P := Try.prog) w 9 41 5 s Try.underlying9 Try.underlying41 Try.underlying5
  go_enter Try.func24, Try.ntmps24
  go_wp2
  go_loopg [3] s.size (fun g i wr => ∃ k : Nat, k + g = s.size ∧ i = .int .i64 k ∧ Hid (∀ j, j < k → Fo.foldI ((Fo.bytes s).getD j 0) = (Fo.bytes s).getD j 0) ∧ Below w.heap.size w wr)
  case atStart => exact ⟨0, by omega, rfl, fun j hj => by omega, Below.refl _ _⟩
  case round =>
    obtain ⟨k, hkg, rfl, HA, hbel⟩ := hrel
    by_cases hk : k < s.size
    · have hr := Fo.bytes_range s k
      have HG : Hid ((Fo.bytes s).getD k 0 = (s[k].toNat : Int)) := Fo.bytes_get s k hk
      have hkI : (k : Int) < (s.size : Int) := by omega
      rw [HG.out] at hr
      by_cases hf : Fo.foldI (s[k].toNat : Int) = (s[k].toNat : Int)
      · have hfb : (Fo.foldI (s[k].toNat : Int) == (s[k].toNat : Int)) = true := by simp [hf]
        have HF : Hid (Fo.foldI (s[k].toNat : Int) = (s[k].toNat : Int)) := hf
        clear hf
        go_wp2_with fail
        go_quiet ((go_at_call 27; exact Calls.quiet_of_same (foldCase_any _ _ (by omega) (by omega))))
        go_wp2_with fail
        go_roundg (gk - 1)
        case measure => go_light; omega
        case rel =>
          go_light
          refine ⟨k + 1, by omega, by go_num, fun j hj => ?_, below_drewN hbel _⟩
          by_cases e : j = k
          · rw [e, HG.out]; exact HF.out
          · exact HA.out j (by omega)
      · have hfb : (Fo.foldI (s[k].toNat : Int) == (s[k].toNat : Int)) = false := by simp [hf]
        go_wp2_with fail
        go_quiet ((go_at_call 27; exact Calls.quiet_of_same (foldCase_any _ _ (by omega) (by omega))))
        go_wp2_with fail
        obtain ⟨wo, hwo⟩ : ∃ wo, wo = wr := ⟨_, rfl⟩
        subst hwo
        go_loopg [5] (s.size - k) (fun g j wx => ∃ (p : Nat) (L : List Int), p + g = s.size ∧ k ≤ p ∧ j = .int .i64 p ∧ Bys wx wo.heap.size s.size L ∧ Hid (∀ t, t < s.size → L.getD t 0 = if t < p then Fo.foldI ((Fo.bytes s).getD t 0) else (Fo.bytes s).getD t 0) ∧ Below w.heap.size w wx)
        case atStart =>
          go_light
          refine ⟨k, Fo.bytes s, by omega, Nat.le_refl _, rfl, Bys.new _ s _ 5, fun t ht => ?_, ?_⟩
          · by_cases h : t < k
            · rw [if_pos h]; exact (HA.out t h).symm
            · rw [if_neg h]
          · exact (below_drewN hbel _).alloc hbel.size _
        case round =>
          have HZ : Hid (w.heap.size ≤ wo.heap.size) := hbel.size
          generalize grownCap _ s.size 0 5 = cp at *
          generalize wo.heap.size = g0 at *
          obtain ⟨p, L, hpg, hkp, rfl, HB, HL, hbel2⟩ := hrel
          clear kc hbel
          by_cases hp : p < s.size
          · have hc := HB.2.1 p hp
            have hfz := HB.2.2 p hp
            have hx : L.getD p 0 = (Fo.bytes s).getD p 0 := by rw [HL.out p hp, if_neg (by omega)]
            have hr2 := Fo.bytes_range s p
            rw [hx] at hc
            obtain ⟨x, hxx⟩ : ∃ x, x = (Fo.bytes s).getD p 0 := ⟨_, rfl⟩
            rw [← hxx] at hc hr2
            have HX : Hid (x = (Fo.bytes s).getD p 0) := hxx
            clear hx hxx
            go_wp2_with (go_at_call 27; refine (foldCase_any _ _ (by omega) (by omega)).mono ?_; rintro e w' ⟨rfl, rfl⟩)
            go_roundg (gk - 1)
            case measure => go_light; omega
            case rel =>
              go_light
              refine ⟨p + 1, L.set p (Fo.foldI x), by omega, by omega, by go_num, HB.store p _ hp, fun t ht => ?_, hbel2.setCell HZ.out _⟩
              rw [set_get L p t _ (by rw [HB.1]; exact hp)]
              by_cases e : t = p
              · rw [if_pos e, if_pos (by omega), e, HX.out]
              · rw [if_neg e, HL.out t ht]
                by_cases h : t < p
                · rw [if_pos h, if_pos (by omega)]
                · rw [if_neg h, if_neg (by omega)]
          · have kd := run_convert_bytes_arg (P := Try.prog) wr 41 5 Try.underlying41 Try.underlying5 g0 0 s.size cp L HB.1 (fun t ht => by rw [Nat.zero_add]; exact HB.2.1 t ht) 9 Try.underlying9
            have HR : Hid (strOfNums L = Fo.foldS s) := Fo.foldS_of s L HB.1 (fun t ht => by rw [HL.out t ht, if_pos (by omega)])
            go_wp2
            go_ret
            exact ⟨congrArg (fun x => Ending.returned (Value.string x)) HR.out, hbel2⟩
    · go_wp2
      go_ret
      exact ⟨congrArg (fun x => Ending.returned (Value.string x)) (Fo.foldS_same s (fun j hj => HA.out j (by omega))).symm, hbel⟩

theorem zzfolded_any (s : ByteArray) (w : World) (hs : s.size ≤ 1048576) : Calls Try.prog 13 #[.string s] w fun e w' => e = .returned (.string (Fo.foldS s)) ∧ Below w.heap.size w w' := by
  go_enter Try.func13, Try.ntmps13
  go_wp2_with fail
  refine (folded_any s _ hs).mono ?_
  rintro e w' ⟨rfl, hb⟩
  go_wp2_with fail
  go_ret
  exact ⟨rfl, hb⟩

theorem low_lit (k : Nat) (h : k < 26) : ((({ data := #[97, 98, 99, 100, 101, 102, 103, 104, 105, 106, 107, 108, 109, 110, 111, 112, 113, 114, 115, 116, 117, 118, 119, 120, 121, 122] } : ByteArray)[k]'h).toNat : Int) = 97 + k := by
  have : ∀ k : Fin 26, ((({ data := #[97, 98, 99, 100, 101, 102, 103, 104, 105, 106, 107, 108, 109, 110, 111, 112, 113, 114, 115, 116, 117, 118, 119, 120, 121, 122] } : ByteArray)[k.val]'k.isLt).toNat : Int) = 97 + (k.val : Int) := by decide
  exact this ⟨k, h⟩

theorem upper_yes (c : Int) (m : Nat) (w : World) (hm : m < 26) (hc : c = 65 + m) : Calls Try.prog 14 #[.int .u8 c] w fun e w' => e = .returned (.int .i64 m) ∧ w' = w := by
  have h := upper_any c w (by omega) (by omega)
  have e : Fo.upI c = m := by unfold Fo.upI; rw [if_pos (by omega)]; omega
  rw [e] at h
  exact h

theorem upper_no (c : Int) (w : World) (h0 : 0 ≤ c) (h1 : c ≤ 255) (hc : ¬ (65 ≤ c ∧ c ≤ 90)) : Calls Try.prog 14 #[.int .u8 c] w fun e w' => e = .returned (.int .i64 (-1)) ∧ w' = w := by
  have h := upper_any c w h0 h1
  have e : Fo.upI c = -1 := by unfold Fo.upI; rw [if_neg hc]
  rw [e] at h
  exact h

set_option maxRecDepth 100000 in
set_option maxHeartbeats 1000000 in
theorem table_walk (s : ByteArray) (w : World) (hs : s.size ≤ 1048576) : Calls Try.prog 4 #[.string s] w fun e w' => e = .returned (.bool true) ∧ Below w.heap.size w w' := by
  have hoz := Fo.foldS_size s
  have HO : Hid (∀ k, k < s.size → (Fo.bytes (Fo.foldS s)).getD k 0 = Fo.foldI ((Fo.bytes s).getD k 0)) := fun k h => Fo.fold_get s k h
  go_enter Try.func4, Try.ntmps4
  go_upto_region 5 with go_in
  go_wp2_with fail
  refine (zzfolded_any s _ hs).mono ?_
  rintro e w1 ⟨rfl, hbel⟩
  generalize Fo.foldS s = o at *
  go_wp2_with fail
  go_loopg [4] s.size (fun g i wr => wr = w1 ∧ ∃ k : Nat, k + g = s.size ∧ i = .int .i64 k)
  case atStart => exact ⟨rfl, 0, by omega, rfl⟩
  case round =>
    obtain ⟨rfl, k, hkg, rfl⟩ := hrel
    by_cases hk : k < s.size
    · have hr := Fo.bytes_range s k
      have hg := HO.out k hk
      rw [Fo.bytes_get o k (by omega), Fo.bytes_get s k hk] at hg
      rw [Fo.bytes_get s k hk] at hr
      unfold Fo.foldI at hg
      by_cases hu : 65 ≤ (s[k].toNat : Int) ∧ (s[k].toNat : Int) ≤ 90
      · obtain ⟨m, hm⟩ : ∃ m : Nat, (s[k].toNat : Int) = 65 + m := ⟨((s[k].toNat : Int) - 65).toNat, by omega⟩
        have hm26 : m < 26 := by omega
        rw [if_pos hu, hm, show (65 + (m : Int) + 32) = 97 + m by omega] at hg
        have hl := low_lit m hm26
        have HM : Hid ((s[k].toNat : Int) = 65 + m) := hm
        clear hu hm
        go_wp2_with (go_at_call 14; refine (upper_yes _ m _ hm26 HM.out).mono ?_; rintro e w' ⟨rfl, rfl⟩)
        go_roundg (gk - 1)
        case measure => go_light; omega
        case rel => go_light; exact ⟨rfl, k + 1, by omega, by go_num⟩
      · rw [if_neg hu] at hg
        go_wp2_with (go_at_call 14; refine (upper_no _ _ (by omega) (by omega) hu).mono ?_; rintro e w' ⟨rfl, rfl⟩)
        go_roundg (gk - 1)
        case measure => go_light; omega
        case rel => go_light; exact ⟨rfl, k + 1, by omega, by go_num⟩
    · go_wp2_with fail
      go_ret
      exact ⟨rfl, hbel⟩

set_option maxRecDepth 100000 in
theorem table_long (s : ByteArray) (w : World) (hs : ¬ s.size ≤ 1048576) (hm : s.size ≤ maxLen) : Calls Try.prog 4 #[.string s] w fun e w' => e = .returned (.bool true) ∧ Below w.heap.size w w' := by
  unfold maxLen at hm
  go_enter Try.func4, Try.ntmps4
  go_wp2
  go_ret
  exact ⟨rfl, Below.refl _ _⟩

theorem table_any (s : ByteArray) (w : World) (hm : s.size ≤ maxLen) : Calls Try.prog 4 #[.string s] w fun e w' => e = .returned (.bool true) ∧ Below w.heap.size w w' := by
  by_cases hs : s.size ≤ 1048576
  · exact table_walk s w hs
  · exact table_long s w hs hm

set_option maxHeartbeats 400000 in
theorem letter_any (c : Int) (w : World) (h0 : 0 ≤ c) (h1 : c ≤ 255) : Calls Try.prog 25 #[.int .u8 c] w fun e w' => e = .returned (.int .i64 (Fo.alphI c)) ∧ w' = w := by
  have HF : Hid (Fo.alphI c = if 65 ≤ c ∧ c ≤ 90 then c - 65 else if 97 ≤ c ∧ c ≤ 122 then c - 97 else -1) := rfl
  generalize Fo.alphI c = y at *
  go_enter Try.func25, Try.ntmps25
  go_wp2
  go_loopg [3] 26 (fun g i wr => wr = w ∧ ∃ k : Nat, k + g = 26 ∧ i = .int .i64 k ∧ Hid (∀ j : Nat, j < k → c ≠ 65 + j ∧ c ≠ 97 + j))
  case atStart => exact ⟨rfl, 0, rfl, rfl, fun j hj => by omega⟩
  case round =>
    obtain ⟨rfl, k, hkg, rfl, HA⟩ := hrel
    by_cases hk : k < 26
    · have hl := up_lit k hk
      have hl2 := low_lit k hk
      by_cases hu : 65 + (k : Int) = c
      · have hub : (65 + (k : Int) == c) = true := by simp [hu]
        have HU : Hid (65 + (k : Int) = c) := hu
        clear hu
        go_wp2
        go_ret
        have := HU.out
        exact ⟨ret_k (by rw [HF.out, if_pos (by omega)]; omega), rfl⟩
      · have hub : (65 + (k : Int) == c) = false := by simp [hu]
        by_cases hv : 97 + (k : Int) = c
        · have hvb : (97 + (k : Int) == c) = true := by simp [hv]
          have HV : Hid (97 + (k : Int) = c) := hv
          clear hv
          go_wp2
          go_ret
          have := HV.out
          exact ⟨ret_k (by rw [HF.out, if_neg (by omega), if_pos (by omega)]; omega), rfl⟩
        · have hvb : (97 + (k : Int) == c) = false := by simp [hv]
          go_wp2
          go_roundg (gk - 1)
          case measure => go_light; omega
          case rel =>
            go_light
            refine ⟨rfl, k + 1, by omega, by go_num, fun j hj => ?_⟩
            by_cases e : j = k
            · rw [e]; exact ⟨fun h => hu h.symm, fun h => hv h.symm⟩
            · exact HA.out j (by omega)
    · go_wp2
      go_ret
      refine ⟨ret_k ?_, rfl⟩
      rw [HF.out, if_neg, if_neg]
      · intro hc
        exact (HA.out (c - 97).toNat (by omega)).2 (by omega)
      · intro hc
        exact (HA.out (c - 65).toNat (by omega)).1 (by omega)

theorem letter_at (c y : Int) (w : World) (h0 : 0 ≤ c) (h1 : c ≤ 255) (hy : Hid (Fo.alphI c = y)) : Calls Try.prog 25 #[.int .u8 c] w fun e w' => e = .returned (.int .i64 y) ∧ w' = w := by
  have h := letter_any c w h0 h1
  rw [hy.out] at h
  exact h

set_option maxHeartbeats 1000000 in
theorem caseless_any (a b : ByteArray) (w : World) (_ha : a.size ≤ 1048576) (_hb : b.size ≤ 1048576) :
    Calls Try.prog 17 #[.string a, .string b] w fun e w' => ∃ B : Bool, e = .returned (.bool B) ∧ (B = true ↔ Fo.foldS a = Fo.foldS b) ∧ Below w.heap.size w w' := by
  by_cases hab : a.size = b.size
  · have hne : ((a.size : Int) != (b.size : Int)) = false := by simp [hab]
    have HAB : Hid (a.size = b.size) := hab
    clear hab
    go_enter Try.func17, Try.ntmps17
    go_wp2_with fail
    go_loopg [5] a.size (fun g i wr => ∃ k : Nat, k + g = a.size ∧ i = .int .i64 k ∧ Hid (∀ j, j < k → Fo.foldI ((Fo.bytes a).getD j 0) = Fo.foldI ((Fo.bytes b).getD j 0)) ∧ Below w.heap.size w wr)
    case atStart => exact ⟨0, by omega, rfl, fun j hj => by omega, Below.refl _ _⟩
    case round =>
      obtain ⟨k, hkg, rfl, HA, hbel⟩ := hrel
      by_cases hk : k < a.size
      · have hkb : k < b.size := by rw [← HAB.out]; exact hk
        have hka' : (k : Int) < (a.size : Int) := by omega
        have hkb' : (k : Int) < (b.size : Int) := by omega
        have hra := Fo.bytes_range a k
        have hrb := Fo.bytes_range b k
        have HGA : Hid ((Fo.bytes a).getD k 0 = (a[k].toNat : Int)) := Fo.bytes_get a k hk
        have HGB : Hid ((Fo.bytes b).getD k 0 = (b[k].toNat : Int)) := Fo.bytes_get b k hkb
        rw [HGA.out] at hra
        rw [HGB.out] at hrb
        by_cases hxy : (a[k].toNat : Int) = (b[k].toNat : Int)
        · have hxb : ((a[k].toNat : Int) == (b[k].toNat : Int)) = true := by simp [hxy]
          have HXY : Hid ((a[k].toNat : Int) = (b[k].toNat : Int)) := hxy
          clear hxy
          go_wp2_with fail
          go_quiet (fail)
          go_wp2_with fail
          go_roundg (gk - 1)
          case measure => go_light; omega
          case rel =>
            go_light
            refine ⟨k + 1, by omega, by go_num, fun j hj => ?_, below_drewN hbel _⟩
            by_cases e : j = k
            · rw [e, HGA.out, HGB.out, HXY.out]
            · exact HA.out j (by omega)
        · have hxb : ((a[k].toNat : Int) == (b[k].toNat : Int)) = false := by simp [hxy]
          have HI := Fo.fold_eq_iff _ _ hxy
          have HI' : Hid (Fo.foldI (a[k].toNat : Int) = Fo.foldI (b[k].toNat : Int) ↔ 0 ≤ Fo.alphI (a[k].toNat : Int) ∧ Fo.alphI (b[k].toNat : Int) = Fo.alphI (a[k].toNat : Int)) := HI
          have HN : Hid (¬ Fo.foldI (a[k].toNat : Int) = Fo.foldI (b[k].toNat : Int) → ¬ Fo.foldS a = Fo.foldS b) := by
            intro hn he
            apply hn
            rw [← HGA.out, ← HGB.out, ← Fo.fold_get a k hk, ← Fo.fold_get b k hkb, he]
          have H1 : Hid (Fo.alphI (a[k].toNat : Int) = Fo.alphI (a[k].toNat : Int)) := rfl
          have H2 : Hid (Fo.alphI (b[k].toNat : Int) = Fo.alphI (b[k].toNat : Int)) := rfl
          clear HI
          obtain ⟨x, hx⟩ : ∃ x, x = Fo.alphI (a[k].toNat : Int) := ⟨_, rfl⟩
          obtain ⟨y, hy⟩ : ∃ y, y = Fo.alphI (b[k].toNat : Int) := ⟨_, rfl⟩
          have HX : Hid (Fo.alphI (a[k].toNat : Int) = x) := hx.symm
          have HY : Hid (Fo.alphI (b[k].toNat : Int) = y) := hy.symm
          rw [← hx, ← hy] at HI'
          clear hx hy H1 H2
          by_cases hx0 : x < 0
          · have hxd : decide (x < 0) = true := by simp [hx0]
            go_wp2_with fail
            go_quiet (fail)
            go_wp2_with (go_at_call 25; refine (letter_at _ x _ (by omega) (by omega) HX).mono ?_; rintro e w' ⟨rfl, rfl⟩)
            go_ret
            exact ⟨false, rfl, ⟨fun h => (by cases h), fun h => absurd h (HN.out (fun h => absurd (HI'.out.1 h).1 (by omega)))⟩, below_drewN hbel _⟩
          · have hxd : decide (x < 0) = false := by simpa using hx0
            by_cases hyx : y = x
            · have hyb : (y != x) = false := by simp [hyx]
              have HYX : Hid (y = x) := hyx
              clear hyx
              go_wp2_with fail
              go_quiet (fail)
              go_wp2_with fail
              refine (letter_at _ x _ (by omega) (by omega) HX).mono ?_
              rintro e w' ⟨rfl, rfl⟩
              go_wp2_with fail
              refine (letter_at _ y _ (by omega) (by omega) HY).mono ?_
              rintro e w' ⟨rfl, rfl⟩
              go_wp2_with fail
              go_roundg (gk - 1)
              case measure => go_light; omega
              case rel =>
                go_light
                refine ⟨k + 1, by omega, by go_num, fun j hj => ?_, below_drewN hbel _⟩
                by_cases e : j = k
                · rw [e, HGA.out, HGB.out]; exact HI'.out.2 ⟨by omega, HYX.out⟩
                · exact HA.out j (by omega)
            · have hyb : (y != x) = true := by simp [hyx]
              go_wp2_with fail
              go_quiet (fail)
              go_wp2_with fail
              refine (letter_at _ x _ (by omega) (by omega) HX).mono ?_
              rintro e w' ⟨rfl, rfl⟩
              go_wp2_with fail
              refine (letter_at _ y _ (by omega) (by omega) HY).mono ?_
              rintro e w' ⟨rfl, rfl⟩
              go_wp2_with fail
              go_ret
              exact ⟨false, rfl, ⟨fun h => (by cases h), fun h => absurd h (HN.out (fun h => absurd (HI'.out.1 h).2 hyx))⟩, below_drewN hbel _⟩
      · go_wp2_with fail
        go_ret
        refine ⟨true, rfl, ⟨fun _ => ?_, fun _ => rfl⟩, hbel⟩
        apply Fo.bytes_inj
        apply Fo.ext_get
        · rw [Fo.bytes_length, Fo.bytes_length, Fo.foldS_size, Fo.foldS_size]; exact HAB.out
        · intro j hj
          rw [Fo.bytes_length, Fo.foldS_size] at hj
          rw [Fo.fold_get a j hj, Fo.fold_get b j (by rw [← HAB.out]; exact hj)]
          exact HA.out j (by omega)
  · have hne : ((a.size : Int) != (b.size : Int)) = true := by rw [bne_iff_ne]; omega
    go_enter Try.func17, Try.ntmps17
    go_wp2_with fail
    go_ret
    refine ⟨false, rfl, ⟨fun h => (by cases h), fun h => absurd ?_ hab⟩, Below.refl _ _⟩
    rw [← Fo.foldS_size a, ← Fo.foldS_size b, h]

set_option maxRecDepth 100000 in
set_option maxHeartbeats 1000000 in
theorem equal_walk (a b : ByteArray) (w : World) (hab : a.size + b.size ≤ 1048576) :
    Calls Try.prog 6 #[.string a, .string b] w fun e w' => e = .returned (.bool true) ∧ Below w.heap.size w w' := by
  have hg1 : decide ((1048576 : Int) < (a.size : Int)) = false := by simp; omega
  have hg2 : decide ((1048576 : Int) < (b.size : Int)) = false := by simp; omega
  go_enter Try.func6, Try.ntmps6
  go_upto_region 5 with go_in
  go_wp2_with fail
  refine (zzfolded_any a _ (by omega)).mono ?_
  rintro e w1 ⟨rfl, hb1⟩
  go_wp2_with fail
  refine (zzfolded_any b _ (by omega)).mono ?_
  rintro e w2 ⟨rfl, hb2⟩
  go_wp2_with fail
  refine (caseless_any a b _ (by omega) (by omega)).mono ?_
  rintro e w3 ⟨B, rfl, HB, hb3⟩
  have hq : ((Fo.foldS a).toList == (Fo.foldS b).toList) = B := by
    rw [ByteArray.toList_eq, ByteArray.toList_eq, Bool.eq_iff_iff, HB, beq_iff_eq]
    constructor
    · intro h
      apply Fo.bytes_inj
      unfold Fo.bytes
      rw [h]
    · intro h; rw [h]
  rw [hq]
  clear hq HB
  go_wp2_with fail
  go_ret
  refine ⟨?_, hb1.trans ((hb2.mono hb1.size).trans (hb3.mono (Nat.le_trans hb1.size hb2.size)))⟩
  simp

set_option maxRecDepth 100000 in
set_option maxHeartbeats 400000 in
theorem equal_long (a b : ByteArray) (w : World) (hab : ¬ a.size + b.size ≤ 1048576) (ha : a.size ≤ maxLen) (hb : b.size ≤ maxLen) :
    Calls Try.prog 6 #[.string a, .string b] w fun e w' => e = .returned (.bool true) ∧ Below w.heap.size w w' := by
  unfold maxLen at ha hb
  by_cases h1 : a.size ≤ 1048576
  · by_cases h2 : b.size ≤ 1048576
    · go_enter Try.func6, Try.ntmps6
      go_wp2
      go_ret
      exact ⟨rfl, Below.refl _ _⟩
    · go_enter Try.func6, Try.ntmps6
      go_wp2
      go_ret
      exact ⟨rfl, Below.refl _ _⟩
  · go_enter Try.func6, Try.ntmps6
    go_wp2
    go_ret
    exact ⟨rfl, Below.refl _ _⟩

theorem equal_any (a b : ByteArray) (w : World) (ha : a.size ≤ maxLen) (hb : b.size ≤ maxLen) :
    Calls Try.prog 6 #[.string a, .string b] w fun e w' => e = .returned (.bool true) ∧ Below w.heap.size w w' := by
  by_cases hs : a.size + b.size ≤ 1048576
  · exact equal_walk a b w hs
  · exact equal_long a b w hs ha hb
end Go.Proofs.Qxb6601348a
