/-
  THE WALKS OF 'zzCopyBytes' (12), 'lower' (23), 'SameQuestion' (13), 'zzSameCaseless' (24), 'zzSameQuestionModel' (14) AND OF THE LAWS 'FnSameQuestionMatchesModel' (4) AND 'FnSameQuestionIsEquivalence' (5). The plain laws lie in Qxb6601654aSamePlain.
-/
import Derived.Test.Qxb6601654aRows
import Derived.Test.Qxb6601654aSamePlain
import Derived.WalkKit
import Derived.ProofKit
import Derived.Below
import Derived.OpenShut
import Derived.Deep.DeepCutAuto
import Derived.Deep.CutBlock
import Derived.Deep.Light
import Derived.Deep.QuietTactic
import Derived.BigQuiet
import Derived.WalkSpells
import Derived.WalkSmall
import Derived.Laws.BytesArg
namespace Go.Proofs.Qxb6601654a
open Go.ChangeShapes Go.WideShapes Go.ChangeAt Go.RowKit

theorem ret_u8 {k : IntKind} {a b : Int} (h : a = b) : Ending.returned (.int k a) = .returned (.int k b) := by rw [h]

/-- WHAT THE WALK IS TOLD OF A SLICE OF INTEGERS THAT CAME IN (the shell's own definition). -/
def IsRow (k : IntKind) (w : World) (a : Option Addr) (len cap : Nat) (zs : List Int) : Prop :=
  (a = none ∧ len = 0 ∧ cap = 0 ∧ zs = []) ∨
  ∃ x, a = some x ∧ len ≤ cap ∧ cap ≤ maxLen ∧ zs.length = cap ∧ (∀ i, i < zs.length → w.cell? (x.add i) = some (.int k (zs.getD i 0))) ∧ ∀ n ∈ zs, (Lit.int k n).wf = true

theorem IsRow.later {k : IntKind} {w w' : World} {a : Option Addr} {len cap : Nat} {zs : List Int} (h : IsRow k w a len cap zs) (hb : Below w.heap.size w w') : IsRow k w' a len cap zs := by
  rcases h with h | ⟨x, h1, h2, h3, h4, h5, h6⟩
  · exact Or.inl h
  · exact Or.inr ⟨x, h1, h2, h3, h4, fun i hi => (hb.cell (World.block_lt_of_cell? w _ (h5 i hi))).trans (h5 i hi), h6⟩

theorem IsRow.range {w : World} {a : Option Addr} {len cap : Nat} {zs : List Int} (h : IsRow .u8 w a len cap zs) (j : Nat) : 0 ≤ zs.getD j 0 ∧ zs.getD j 0 ≤ 255 := by
  by_cases hj : j < zs.length
  · rcases h with ⟨_, _, _, rfl⟩ | ⟨x, h1, h2, h3, h4, h5, h6⟩
    · simp at hj
    · have hm : zs[j] ∈ zs := List.getElem_mem hj
      have := bounds_u8 (h6 _ hm)
      simp [List.getElem?_eq_getElem hj]
      exact this
  · rw [List.getD_eq_getElem?_getD, List.getElem?_eq_none (by omega)]
    simp

theorem IsRow.len_le {k : IntKind} {w : World} {a : Option Addr} {len cap : Nat} {zs : List Int} (h : IsRow k w a len cap zs) : len ≤ maxLen := by
  rcases h with ⟨_, rfl, _, _⟩ | ⟨x, h1, h2, h3, _⟩
  · exact Nat.zero_le _
  · omega

/-- A copy of the call's own: n octets, the list L: nil, or a row at the head of a block. -/
def Bs (w : World) (ao : Option Addr) (n c : Nat) (L : List Int) : Prop := 0 < n → ∃ g, ao = some ⟨g, 0, none⟩ ∧ c = n ∧ g < w.heap.size ∧ ∀ j, j < n → w.cell? ⟨g, j, none⟩ = some (.int .u8 (L.getD j 0))

theorem Bs.later {w w' : World} {ao : Option Addr} {n c : Nat} {L : List Int} (h : Bs w ao n c L) (hb : Below w.heap.size w w') : Bs w' ao n c L := by
  intro hn
  obtain ⟨g, h1, h2, h3, h4⟩ := h hn
  exact ⟨g, h1, h2, Nat.lt_of_lt_of_le h3 hb.size, fun j hj => (hb.cell h3).trans (h4 j hj)⟩

theorem Try.info5 : (Try.prog.info? 5).map (fun i => (i.zero, i.size, i.bytes)) = some (some (.int .u8 0), 1, 1) := by kernel_rfl

/-- Block g is a row of n octets of the call's own, the list L. -/
def Own (w : World) (g n : Nat) (L : List Int) : Prop := w.ownsRow g 5 1 (.slice (some ⟨g, 0, none⟩) n n) n (L.map (Value.int .u8))

theorem Own.len {w : World} {g n : Nat} {L : List Int} (h : Own w g n L) : L.length = n := by
  have := h.1
  simpa using this
theorem Own.lt {w : World} {g n : Nat} {L : List Int} (h : Own w g n L) : g < w.heap.size := (World.ownsRow.lt h g rfl).2
theorem Own.cell {w : World} {g n : Nat} {L : List Int} (h : Own w g n L) (j : Nat) (hj : j < n) : w.cell? ⟨g, j, none⟩ = some (.int .u8 (L.getD j 0)) := by
  have hl := h.len
  rw [World.ownsRow.cellAt h j (by omega)]
  simp [List.getElem?_eq_getElem (show j < L.length by omega)]
theorem Own.frozen {w : World} {g n : Nat} {L : List Int} (h : Own w g n L) (j : Nat) : w.frozen? ⟨g, j, none⟩ = false := World.ownsRow.frozenAt h j
theorem Own.store {w : World} {g n : Nat} {L : List Int} (h : Own w g n L) (j : Nat) (x : Int) : Own (w.setCell ⟨g, j, none⟩ (.int .u8 x)) g n (L.set j x) := by
  have := (World.ownsRow.stored h j (.int .u8 x)).1
  unfold Own
  rw [List.map_set]
  exact this
theorem Own.made {w : World} {g n : Nat} (h : w.ownsRow g 5 1 (.slice (some ⟨g, 0, none⟩) n n) n (madeCells (Value.cells (.int .u8 0)) (n * 1)).toList) : Own w g n (List.replicate n 0) := by
  have e : (madeCells (Value.cells (.int .u8 0)) (n * 1)).toList = (List.replicate n (0 : Int)).map (Value.int .u8) := by
    rw [List.map_replicate, Nat.mul_one]
    exact toList_madeCells_one _ _
  rw [e] at h
  exact h

theorem set_get (L : List Int) (p j : Nat) (v : Int) (hp : p < L.length) : (L.set p v).getD j 0 = if j = p then v else L.getD j 0 := by
  by_cases h : j = p
  · subst h; simp [hp]
  · rw [if_neg h]; simp [Ne.symm h]

set_option maxHeartbeats 400000 in
/-- 'zzCopyBytes'. -/
theorem copy_any (a : Option Addr) (n cap : Nat) (z : List Int) (w : World) (w0 : IsRow .u8 w a n cap z) (hn : n ≤ 1048576) :
    Calls Try.prog 12 #[.slice a n cap] w fun e w' => ∃ ao c, e = .returned (.slice ao n c) ∧ Bs w' ao n c z ∧ Below w.heap.size w w' := by
  obtain ⟨i0, hi, hz0, hz1, hz2⟩ := info_parts Try.info5
  have hby : i0.bytes * n ≤ 281474976710656 := by rw [hz2]; omega
  have hml : n ≤ maxLen := by unfold maxLen; omega
  have heq := fun w => Lib.run_eql_slice_nil (P := Try.prog) w 29 5 a n cap 0 0 Try.underlying29
  rcases w0 with ⟨rfl, rfl, rfl, rfl⟩ | ⟨⟨b, off, spot⟩, rfl, hlc, hcm, hzl, hcell, _⟩
  · go_enter Try.func12, Try.ntmps12
    go_wp2_with fail
    go_ret
    exact ⟨none, 0, rfl, fun h => absurd h (by omega), Below.refl _ _⟩
  · go_enter Try.func12, Try.ntmps12
    go_wp2_with (at_make; refine wpList_make_full _ rfl _ _ 29 rfl w.heap.size 5 i0 (.int .u8 0) 1 Try.underlying29 hi hz0 hz1 _ _ _ _ n rfl rfl rfl rfl hby hml (Nat.le_refl _) ?_; intro w1 hown hgrow)
    go_loopg [4] n (fun g i wr => ∃ (k : Nat) (L : List Int), k + g = n ∧ i = .int .i64 k ∧ Own wr w.heap.size n L ∧ Hid (∀ j, j < k → L.getD j 0 = z.getD j 0) ∧ Below w.heap.size w wr)
    case atStart => exact ⟨0, _, by omega, rfl, Own.made hown, (fun j hj => by omega), (Below.refl _ _).grown hgrow (Nat.le_refl _) (fun k h => by cases h)⟩
    case round =>
      obtain ⟨k, L, hkg, rfl, HO, HL, hbel⟩ := hrel
      clear hown hgrow heq
      by_cases hk : k < n
      · have hsp : spot = none := by simpa [Addr.add] using World.cell?_spot (hcell 0 (by omega))
        subst hsp
        have hcw : w.cell? ⟨b, off + k, none⟩ = some (.int .u8 (z.getD k 0)) := by rw [← add_plain]; exact hcell k (by omega)
        have hcx : wr.cell? ⟨b, off + k, none⟩ = some (.int .u8 (z.getD k 0)) := (hbel.cell (World.block_lt_of_cell? w _ hcw)).trans hcw
        obtain ⟨zk, hzk⟩ : ∃ zk, zk = z.getD k 0 := ⟨_, rfl⟩
        rw [← hzk] at hcx
        have HZ : Hid (zk = z.getD k 0) := hzk
        have hg1 := HO.cell k hk
        have hg2 := HO.frozen k
        obtain ⟨y, hy⟩ : ∃ y, y = L.getD k 0 := ⟨_, rfl⟩
        rw [← hy] at hg1
        clear hcell hcw hzk hy
        go_wp2
        go_roundg (gk - 1)
        case measure => go_light; omega
        case rel =>
          go_light
          refine ⟨k + 1, L.set k zk, by omega, by go_num, HO.store k zk, fun j hj => ?_, hbel.setCell (Nat.le_refl _) _⟩
          rw [set_get L k j zk (by rw [HO.len]; exact hk)]
          by_cases e : j = k
          · rw [if_pos e, e]; exact HZ.out
          · rw [if_neg e]; exact HL.out j (by omega)
      · go_wp2
        go_ret
        exact ⟨_, _, rfl, fun _ => ⟨w.heap.size, rfl, rfl, HO.lt, fun j hj => by rw [HO.cell j hj, HL.out j (by omega)]⟩, hbel⟩

theorem lower_any (c : Int) (w : World) (h0 : 0 ≤ c) (h1 : c ≤ 255) : Calls Try.prog 23 #[.int .u8 c] w fun e w' => e = .returned (.int .u8 (Sa.low c)) ∧ w' = w := by
  have HF : Hid (Sa.low c = if 65 ≤ c ∧ c ≤ 90 then c + 32 else c) := rfl
  generalize Sa.low c = y at *
  by_cases ha : 65 ≤ c
  · by_cases hb : c ≤ 90
    · go_enter Try.func23, Try.ntmps23
      go_wp2
      go_ret
      exact ⟨ret_u8 (by rw [HF.out, if_pos ⟨ha, hb⟩]; omega), rfl⟩
    · go_enter Try.func23, Try.ntmps23
      go_wp2
      go_ret
      exact ⟨ret_u8 (by rw [HF.out, if_neg (by omega)]), rfl⟩
  · have hd : decide ((65 : Int) ≤ c) = false := by simpa using ha
    go_enter Try.func23, Try.ntmps23
    go_wp2
    go_ret
    exact ⟨ret_u8 (by rw [HF.out, if_neg (by omega)]), rfl⟩

theorem Try.size5 (w : World) : (sizeOf 5).run Try.prog w = .ok 1 w := by kernel_rfl

/-- 'a[name:]', the last four octets. -/
theorem tail_slice (g p : Nat) (w : World) : (Instr.slice 29 (.slice (some ⟨g, 0, none⟩) (p + 4) (p + 4)) (some (.int .i64 p)) none none).run Try.prog w = .ok (.slice (some ⟨g, p, none⟩) 4 4) w := by
  have h := run_slice_l (P := Try.prog) w 29 (some ⟨g, 0, none⟩) (p + 4) (p + 4) (by kernel_rfl) .i64 p (by omega) (by omega)
  rw [h]
  have e : Try.prog.elem 29 = 5 := by kernel_rfl
  rw [e, Try.size5]
  simp [Result.andThen, sliced, Addr.add]
  omega

/-- 'string(a[name:])'. -/
theorem tail_string (g p : Nat) (x : List Int) (w : World) (hc : ∀ j, j < p + 4 → w.cell? ⟨g, j, none⟩ = some (.int .u8 (x.getD j 0))) :
    (convert 29 9 (.slice (some ⟨g, p, none⟩) 4 4)).run Try.prog w = .ok (.string (strOfNums (Sa.tl x (p + 4)))) w := by
  refine run_convert_bytes_arg (P := Try.prog) w 29 5 Try.underlying29 Try.underlying5 g p 4 4 (Sa.tl x (p + 4)) rfl (fun i hi => ?_) 9 Try.underlying9
  rw [Sa.tl_get x (p + 4) i hi, show p + 4 - 4 + i = p + i by omega]
  exact hc (p + i) (by omega)

set_option maxHeartbeats 400000 in
/-- 'SameQuestion' of two copies. -/
theorem same_any (ao bo : Option Addr) (n m ca cb : Nat) (x y : List Int) (w : World) (hx : Bs w ao n ca x) (hy : Bs w bo m cb y) (hn : n ≤ 1048576) (hm : m ≤ 1048576)
    (rx : ∀ j, 0 ≤ x.getD j 0 ∧ x.getD j 0 ≤ 255) (ry : ∀ j, 0 ≤ y.getD j 0 ∧ y.getD j 0 ≤ 255) :
    Calls Try.prog 13 #[.slice ao n ca, .slice bo m cb] w fun e w' => ∃ B : Bool, e = .returned (.bool B) ∧ (B = true ↔ Sa.Sam n m x y) ∧ Below w.heap.size w w' := by
  by_cases hnm : n = m
  · subst hnm
    by_cases h5 : n < 5
    · go_enter Try.func13, Try.ntmps13
      go_wp2_with fail
      go_ret
      exact ⟨false, rfl, ⟨fun h => (by cases h), fun h => absurd h.2.1 (by omega)⟩, Below.refl _ _⟩
    · obtain ⟨p, rfl⟩ : ∃ p, n = p + 4 := ⟨n - 4, by omega⟩
      obtain ⟨g, rfl, hca, hg, hgc⟩ := hx (by omega)
      obtain ⟨g', rfl, hcb, hg', hgc'⟩ := hy (by omega)
      subst hca
      subst hcb
      have HT : Hid (((strOfNums (Sa.tl x (p + 4))).toList == (strOfNums (Sa.tl y (p + 4))).toList) = true ↔ ∀ j, p + 4 - 4 ≤ j → j < p + 4 → x.getD j 0 = y.getD j 0) := Sa.tail_eq x y (p + 4) (by omega) (fun j _ => rx j) (fun j _ => ry j)
      have hsa := tail_slice g p
      have hsb := tail_slice g' p
      have hva : ∀ q, (convert 29 9 (.slice (some ⟨g, p, none⟩) 4 4)).run Try.prog (w.drewN q) = .ok (.string (strOfNums (Sa.tl x (p + 4)))) (w.drewN q) := fun q => tail_string g p x _ hgc
      have hvb : ∀ q, (convert 29 9 (.slice (some ⟨g', p, none⟩) 4 4)).run Try.prog (w.drewN q) = .ok (.string (strOfNums (Sa.tl y (p + 4)))) (w.drewN q) := fun q => tail_string g' p y _ hgc'
      generalize strOfNums (Sa.tl x (p + 4)) = sa at *
      generalize strOfNums (Sa.tl y (p + 4)) = sb at *
      have HX : Hid (∀ j, j < p + 4 → w.cell? ⟨g, j, none⟩ = some (.int .u8 (x.getD j 0))) := hgc
      have HY : Hid (∀ j, j < p + 4 → w.cell? ⟨g', j, none⟩ = some (.int .u8 (y.getD j 0))) := hgc'
      clear hx hy hgc hgc'
      by_cases ht : (sa.toList == sb.toList) = true
      · have HT4 : Hid (∀ j, p + 4 - 4 ≤ j → j < p + 4 → x.getD j 0 = y.getD j 0) := HT.out.1 ht
        clear HT
        go_enter Try.func13, Try.ntmps13
        go_wp2_with fail
        go_quiet (fail)
        go_wp2_with fail
        go_loopg [30] p (fun g2 c wr => ∃ k : Nat, k + g2 = p ∧ c = .int .i64 k ∧ Hid (∀ j, j < k → Sa.low (x.getD j 0) = Sa.low (y.getD j 0)) ∧ Below w.heap.size w wr)
        case atStart => exact ⟨0, by omega, rfl, fun j hj => (by omega), below_drewN (Below.refl _ _) _⟩
        case round =>
          obtain ⟨k, hkg, rfl, HA, hbel⟩ := hrel
          clear hsa hsb hva hvb ht
          by_cases hk : k < p
          · have hcx : wr.cell? ⟨g, k, none⟩ = some (.int .u8 (x.getD k 0)) := (hbel.cell hg).trans (HX.out k (by omega))
            have hcy : wr.cell? ⟨g', k, none⟩ = some (.int .u8 (y.getD k 0)) := (hbel.cell hg').trans (HY.out k (by omega))
            have hrx := rx k
            have hry := ry k
            obtain ⟨xk, hxk⟩ : ∃ xk, xk = x.getD k 0 := ⟨_, rfl⟩
            obtain ⟨yk, hyk⟩ : ∃ yk, yk = y.getD k 0 := ⟨_, rfl⟩
            rw [← hxk] at hcx hrx
            rw [← hyk] at hcy hry
            have HXK : Hid (xk = x.getD k 0) := hxk
            have HYK : Hid (yk = y.getD k 0) := hyk
            clear hxk hyk rx ry
            have hkl : (k : Int) < ((p + 4 : Nat) : Int) := by omega
            by_cases hl : Sa.low xk = Sa.low yk
            · have hlb : (Sa.low xk != Sa.low yk) = false := by simp [hl]
              have HL : Hid (Sa.low xk = Sa.low yk) := hl
              clear hl
              go_wp2_with fail
              go_quiet ((go_at_call 23; exact Calls.quiet_of_same (lower_any _ _ (by omega) (by omega))))
              go_wp2_with fail
              go_roundg (gk - 1)
              case measure => go_light; omega
              case rel =>
                go_light
                refine ⟨k + 1, by omega, by go_num, fun j hj => ?_, below_drewN hbel _⟩
                by_cases e : j = k
                · rw [e, ← HXK.out, ← HYK.out]; exact HL.out
                · exact HA.out j (by omega)
            · have hlb : (Sa.low xk != Sa.low yk) = true := by simp [hl]
              go_wp2_with fail
              go_quiet ((go_at_call 23; exact Calls.quiet_of_same (lower_any _ _ (by omega) (by omega))))
              go_wp2_with fail
              go_ret
              refine ⟨false, rfl, ⟨fun h => (by cases h), fun h => absurd ?_ hl⟩, below_drewN hbel _⟩
              rw [HXK.out, HYK.out]
              exact h.2.2.2 k (by omega)
          · go_wp2_with fail
            go_ret
            exact ⟨true, rfl, ⟨fun _ => ⟨rfl, by omega, HT4.out, fun j hj => HA.out j (by omega)⟩, fun _ => rfl⟩, hbel⟩
      · have htf : (sa.toList == sb.toList) = false := by simpa using ht
        go_enter Try.func13, Try.ntmps13
        go_wp2_with fail
        go_quiet (fail)
        go_wp2_with fail
        go_ret
        exact ⟨false, rfl, ⟨fun h => (by cases h), fun h => absurd (HT.out.2 h.2.2.1) ht⟩, below_drewN (Below.refl _ _) _⟩
  · have hne : ((n : Int) != (m : Int)) = true := by rw [bne_iff_ne]; omega
    go_enter Try.func13, Try.ntmps13
    go_wp2_with fail
    go_ret
    exact ⟨false, rfl, ⟨fun h => (by cases h), fun h => absurd h.1 hnm⟩, Below.refl _ _⟩

set_option maxHeartbeats 400000 in
/-- 'zzSameCaseless'. -/
theorem caseless_any (x y : Int) (w : World) : Calls Try.prog 24 #[.int .u8 x, .int .u8 y] w fun e w' => e = .returned (.bool (Sa.sc x y)) ∧ w' = w := by
  have HS : Hid (Sa.sc x y = ((x == y) || ((bits BinOp.xor IntKind.u8 x y == 32) && (decide (65 ≤ bits BinOp.andNot IntKind.u8 x 32) && decide (bits BinOp.andNot IntKind.u8 x 32 ≤ 90))))) := rfl
  generalize Sa.sc x y = B at *
  by_cases hxy : (x == y) = true
  · have e : B = true := by rw [HS.out, hxy, Bool.true_or]
    clear HS
    subst e
    go_enter Try.func24, Try.ntmps24
    go_wp2_with fail
    go_ret
    exact ⟨rfl, rfl⟩
  · have hxyf : (x == y) = false := by simpa using hxy
    rw [hxyf, Bool.false_or] at HS
    clear hxy
    by_cases hb : (bits BinOp.xor IntKind.u8 x y == 32) = true
    · have hbn : (bits BinOp.xor IntKind.u8 x y != 32) = false := by rw [bne, hb]; rfl
      rw [hb, Bool.true_and] at HS
      clear hb
      obtain ⟨u, hu⟩ : ∃ u, u = bits BinOp.andNot IntKind.u8 x 32 := ⟨_, rfl⟩
      rw [← hu] at HS
      by_cases h65 : 65 ≤ u
      · have h65b : decide (65 ≤ u) = true := by simpa using h65
        rw [h65b, Bool.true_and] at HS
        have hu' : bits BinOp.andNot IntKind.u8 x 32 = u := hu.symm
        clear hu
        go_enter Try.func24, Try.ntmps24
        go_wp2_with fail
        go_ret
        exact ⟨congrArg (fun b => Ending.returned (Value.bool b)) HS.out.symm, rfl⟩
      · have h65b : decide (65 ≤ u) = false := by simpa using h65
        rw [h65b, Bool.false_and] at HS
        have e : B = false := HS.out
        subst e
        have hu' : bits BinOp.andNot IntKind.u8 x 32 = u := hu.symm
        clear hu
        go_enter Try.func24, Try.ntmps24
        go_wp2_with fail
        go_ret
        exact ⟨rfl, rfl⟩
    · have hbf : (bits BinOp.xor IntKind.u8 x y == 32) = false := by simpa using hb
      have hbn : (bits BinOp.xor IntKind.u8 x y != 32) = true := by rw [bne, hbf]; rfl
      rw [hbf, Bool.false_and] at HS
      have e : B = false := HS.out
      subst e
      go_enter Try.func24, Try.ntmps24
      go_wp2_with fail
      go_ret
      exact ⟨rfl, rfl⟩

set_option maxHeartbeats 1000000 in
/-- 'zzSameQuestionModel' of two copies. -/
theorem model_any (ao bo : Option Addr) (n m ca cb : Nat) (x y : List Int) (w : World) (hx : Bs w ao n ca x) (hy : Bs w bo m cb y) (hn : n ≤ 1048576) (hm : m ≤ 1048576)
    (rx : ∀ j, 0 ≤ x.getD j 0 ∧ x.getD j 0 ≤ 255) (ry : ∀ j, 0 ≤ y.getD j 0 ∧ y.getD j 0 ≤ 255) :
    Calls Try.prog 14 #[.slice ao n ca, .slice bo m cb] w fun e w' => ∃ B : Bool, e = .returned (.bool B) ∧ (B = true ↔ Sa.Sam n m x y) ∧ Below w.heap.size w w' := by
  by_cases hnm : n = m
  · subst hnm
    by_cases h5 : n < 5
    · go_enter Try.func14, Try.ntmps14
      go_wp2_with fail
      go_ret
      exact ⟨false, rfl, ⟨fun h => (by cases h), fun h => absurd h.2.1 (by omega)⟩, Below.refl _ _⟩
    · obtain ⟨p, rfl⟩ : ∃ p, n = p + 4 := ⟨n - 4, by omega⟩
      obtain ⟨g, rfl, hca, hg, hgc⟩ := hx (by omega)
      obtain ⟨g', rfl, hcb, hg', hgc'⟩ := hy (by omega)
      subst hca
      subst hcb
      have HX : Hid (∀ j, j < p + 4 → w.cell? ⟨g, j, none⟩ = some (.int .u8 (x.getD j 0))) := hgc
      have HY : Hid (∀ j, j < p + 4 → w.cell? ⟨g', j, none⟩ = some (.int .u8 (y.getD j 0))) := hgc'
      clear hx hy hgc hgc'
      go_enter Try.func14, Try.ntmps14
      go_wp2_with fail
      go_loopg [6] (p + 4) (fun g2 c wr => ∃ k : Nat, k + g2 = p + 4 ∧ c = .int .i64 k ∧ Hid (∀ j, j < k → (p ≤ j → x.getD j 0 = y.getD j 0) ∧ (j < p → Sa.low (x.getD j 0) = Sa.low (y.getD j 0))) ∧ Below w.heap.size w wr)
      case atStart => exact ⟨0, by omega, rfl, fun j hj => (by omega), Below.refl _ _⟩
      case round =>
        obtain ⟨k, hkg, rfl, HA, hbel⟩ := hrel
        by_cases hk : k < p + 4
        · have hcx : wr.cell? ⟨g, k, none⟩ = some (.int .u8 (x.getD k 0)) := (hbel.cell hg).trans (HX.out k (by omega))
          have hcy : wr.cell? ⟨g', k, none⟩ = some (.int .u8 (y.getD k 0)) := (hbel.cell hg').trans (HY.out k (by omega))
          have hrx := rx k
          have hry := ry k
          obtain ⟨xk, hxk⟩ : ∃ xk, xk = x.getD k 0 := ⟨_, rfl⟩
          obtain ⟨yk, hyk⟩ : ∃ yk, yk = y.getD k 0 := ⟨_, rfl⟩
          rw [← hxk] at hcx hrx
          rw [← hyk] at hcy hry
          have HXK : Hid (xk = x.getD k 0) := hxk
          have HYK : Hid (yk = y.getD k 0) := hyk
          clear hxk hyk rx ry
          have hkl : (k : Int) < ((p + 4 : Nat) : Int) := by omega
          by_cases hkp : p ≤ k
          · by_cases hl : xk = yk
            · have hlb : (xk != yk) = false := by simp [hl]
              have HL : Hid (xk = yk) := hl
              clear hl
              go_wp2_with fail
              go_quiet (fail)
              go_wp2_with fail
              go_roundg (gk - 1)
              case measure => go_light; omega
              case rel =>
                go_light
                refine ⟨k + 1, by omega, by go_num, fun j hj => ?_, below_drewN hbel _⟩
                by_cases e : j = k
                · rw [e, ← HXK.out, ← HYK.out]; exact ⟨fun _ => HL.out, fun h => absurd h (by omega)⟩
                · exact HA.out j (by omega)
            · have hlb : (xk != yk) = true := by simp [hl]
              go_wp2_with fail
              go_quiet (fail)
              go_wp2_with fail
              go_ret
              refine ⟨false, rfl, ⟨fun h => (by cases h), fun h => absurd ?_ hl⟩, below_drewN hbel _⟩
              rw [HXK.out, HYK.out]
              exact h.2.2.1 k (by omega) (by omega)
          · have HSC := Sa.sc_iff xk yk hrx hry
            have HC : Hid (∀ w, Calls Try.prog 24 #[.int .u8 xk, .int .u8 yk] w fun e w' => e = .returned (.bool (Sa.sc xk yk)) ∧ w' = w) := fun w => caseless_any xk yk w
            have HS2 : Hid (Sa.sc xk yk = true ↔ Sa.low xk = Sa.low yk) := HSC
            clear HSC
            generalize Sa.sc xk yk = B at *
            cases B with
            | true =>
              go_wp2_with fail
              go_quiet ((go_at_call 24; exact Calls.quiet_of_same (HC.out _)))
              go_wp2_with fail
              go_roundg (gk - 1)
              case measure => go_light; omega
              case rel =>
                go_light
                refine ⟨k + 1, by omega, by go_num, fun j hj => ?_, below_drewN hbel _⟩
                by_cases e : j = k
                · rw [e, ← HXK.out, ← HYK.out]; exact ⟨fun h => absurd h (by omega), fun _ => HS2.out.1 (by simp)⟩
                · exact HA.out j (by omega)
            | false =>
              go_wp2_with fail
              go_quiet ((go_at_call 24; exact Calls.quiet_of_same (HC.out _)))
              go_wp2_with fail
              go_ret
              refine ⟨false, rfl, ⟨fun h => (by cases h), fun h => ?_⟩, below_drewN hbel _⟩
              have h2 := HS2.out.2 (by rw [HXK.out, HYK.out]; exact h.2.2.2 k (by omega))
              simp at h2
        · go_wp2_with fail
          go_ret
          exact ⟨true, rfl, ⟨fun _ => ⟨rfl, by omega, fun j a b => (HA.out j (by omega)).1 (by omega), fun j a => (HA.out j (by omega)).2 (by omega)⟩, fun _ => rfl⟩, hbel⟩
  · have hne : ((n : Int) != (m : Int)) = true := by rw [bne_iff_ne]; omega
    go_enter Try.func14, Try.ntmps14
    go_wp2_with fail
    go_ret
    exact ⟨false, rfl, ⟨fun h => (by cases h), fun h => absurd h.1 hnm⟩, Below.refl _ _⟩

set_option maxRecDepth 100000 in
set_option maxHeartbeats 1000000 in
/-- THE LAW 'FnSameQuestionMatchesModel' (4), at lengths that the function looks at. -/
theorem matches_walk (a b : Option Addr) (n m ca cb : Nat) (x y : List Int) (w : World) (hx : IsRow .u8 w a n ca x) (hy : IsRow .u8 w b m cb y) (hnm : n + m ≤ 1048576) :
    Calls Try.prog 4 #[.slice a n ca, .slice b m cb] w fun e w' => e = .returned (.bool true) ∧ Below w.heap.size w w' := by
  have hg1 : decide ((1048576 : Int) < (n : Int)) = false := by simp; omega
  have hg2 : decide ((1048576 : Int) < (m : Int)) = false := by simp; omega
  go_enter Try.func4, Try.ntmps4
  go_upto_region 7 with go_in
  go_wp2_with fail
  refine (copy_any a n ca x _ hx (by omega)).mono ?_
  rintro e w1 ⟨ao, c1, rfl, bx, hb1⟩
  go_wp2_with fail
  refine (copy_any b m cb y _ (hy.later hb1) (by omega)).mono ?_
  rintro e w2 ⟨bo, c2, rfl, by2, hb2⟩
  have bx2 := bx.later hb2
  go_wp2_with fail
  refine (same_any ao bo n m c1 c2 x y _ bx2 by2 (by omega) (by omega) hx.range hy.range).mono ?_
  rintro e w3 ⟨B, rfl, HB, hb3⟩
  go_wp2_with fail
  refine (model_any ao bo n m c1 c2 x y _ (bx2.later hb3) (by2.later hb3) (by omega) (by omega) hx.range hy.range).mono ?_
  rintro e w4 ⟨B', rfl, HB', hb4⟩
  have e : B = B' := by rw [Bool.eq_iff_iff, HB, HB']
  subst e
  clear HB HB'
  go_wp2_with fail
  go_ret
  refine ⟨by simp, hb1.trans ((hb2.mono hb1.size).trans ((hb3.mono (Nat.le_trans hb1.size hb2.size)).trans (hb4.mono (Nat.le_trans hb1.size (Nat.le_trans hb2.size hb3.size)))))⟩

set_option maxRecDepth 100000 in
set_option maxHeartbeats 1000000 in
theorem matches_long (a b : Option Addr) (n m ca cb : Nat) (w : World) (hn : n ≤ maxLen) (hm : m ≤ maxLen) (hnm : ¬ n + m ≤ 1048576) :
    Calls Try.prog 4 #[.slice a n ca, .slice b m cb] w fun e w' => e = .returned (.bool true) ∧ Below w.heap.size w w' := by
  unfold maxLen at hn hm
  by_cases h1 : n ≤ 1048576
  · by_cases h2 : m ≤ 1048576
    · go_enter Try.func4, Try.ntmps4
      go_wp2
      go_ret
      exact ⟨rfl, Below.refl _ _⟩
    · go_enter Try.func4, Try.ntmps4
      go_wp2
      go_ret
      exact ⟨rfl, Below.refl _ _⟩
  · go_enter Try.func4, Try.ntmps4
    go_wp2
    go_ret
    exact ⟨rfl, Below.refl _ _⟩

theorem matches_any (a b : Option Addr) (n m ca cb : Nat) (x y : List Int) (w : World) (hx : IsRow .u8 w a n ca x) (hy : IsRow .u8 w b m cb y) :
    Calls Try.prog 4 #[.slice a n ca, .slice b m cb] w fun e w' => e = .returned (.bool true) ∧ Below w.heap.size w w' := by
  by_cases h : n + m ≤ 1048576
  · exact matches_walk a b n m ca cb x y w hx hy h
  · exact matches_long a b n m ca cb w hx.len_le hy.len_le h

set_option maxRecDepth 100000 in
set_option maxHeartbeats 1000000 in
/-- THE LAW 'FnSameQuestionIsEquivalence' (5), at lengths that the function looks at. -/
theorem equiv_walk (a b c : Option Addr) (n m l ca cb cc : Nat) (x y z : List Int) (w : World) (hx : IsRow .u8 w a n ca x) (hy : IsRow .u8 w b m cb y) (hz : IsRow .u8 w c l cc z) (hnm : n + m + l ≤ 1048576) :
    Calls Try.prog 5 #[.slice a n ca, .slice b m cb, .slice c l cc] w fun e w' => e = .returned (.bool true) ∧ Below w.heap.size w w' := by
  have hg1 : decide ((1048576 : Int) < (n : Int)) = false := by simp; omega
  have hg2 : decide ((1048576 : Int) < (m : Int)) = false := by simp; omega
  have hg3 : decide ((1048576 : Int) < (l : Int)) = false := by simp; omega
  have rx := hx.range
  have ry := hy.range
  have rz := hz.range
  go_enter Try.func5, Try.ntmps5
  go_upto_region 7 with go_in
  go_wp2_with fail
  refine (copy_any a n ca x _ hx (by omega)).mono ?_
  rintro e w1 ⟨ao, c1, rfl, bx, hb1⟩
  go_wp2_with fail
  refine (copy_any b m cb y _ (hy.later hb1) (by omega)).mono ?_
  rintro e w2 ⟨bo, c2, rfl, by2, hb2⟩
  have hb12 := hb1.trans (hb2.mono hb1.size)
  go_wp2_with fail
  refine (copy_any c l cc z _ (hz.later hb12) (by omega)).mono ?_
  rintro e w3 ⟨co, c3, rfl, bz, hb3⟩
  have hb13 := hb12.trans (hb3.mono hb12.size)
  have HX : Hid (Bs w3 ao n c1 x) := (bx.later hb2).later hb3
  have HY : Hid (Bs w3 bo m c2 y) := by2.later hb3
  have HZ : Hid (Bs w3 co l c3 z) := bz
  have RX : Hid (∀ j, 0 ≤ x.getD j 0 ∧ x.getD j 0 ≤ 255) := rx
  have RY : Hid (∀ j, 0 ≤ y.getD j 0 ∧ y.getD j 0 ≤ 255) := ry
  have RZ : Hid (∀ j, 0 ≤ z.getD j 0 ∧ z.getD j 0 ≤ 255) := rz
  clear bx by2 bz rx ry rz hx hy hz hb1 hb2 hb12 hb3
  go_wp2_with fail
  refine (same_any ao ao n n c1 c1 x x _ HX.out HX.out (by omega) (by omega) RX.out RX.out).mono ?_
  rintro e w4 ⟨B0, rfl, HB0, hb4⟩
  have hb14 := hb13.trans (hb4.mono hb13.size)
  have hB0 : B0 = decide ((5 : Int) ≤ (n : Int)) := by
    rw [Bool.eq_iff_iff, HB0, Sa.sam_refl, decide_eq_true_iff]; omega
  subst hB0
  clear HB0
  go_wp2_with fail
  refine (same_any ao bo n m c1 c2 x y _ (HX.out.later hb4) (HY.out.later hb4) (by omega) (by omega) RX.out RY.out).mono ?_
  rintro e w5 ⟨B1, rfl, HB1, hb5⟩
  have hb35 := hb4.trans (hb5.mono hb4.size)
  have hb15 := hb14.trans (hb5.mono hb14.size)
  have HB1' : Hid (B1 = true ↔ Sa.Sam n m x y) := HB1
  clear HB1
  go_wp2_with fail
  refine (same_any bo ao m n c2 c1 y x _ (HY.out.later hb35) (HX.out.later hb35) (by omega) (by omega) RY.out RX.out).mono ?_
  rintro e w6 ⟨B2, rfl, HB2, hb6⟩
  have hb36 := hb35.trans (hb6.mono hb35.size)
  have hb16 := hb15.trans (hb6.mono hb15.size)
  have e2 : B1 = B2 := by
    rw [Bool.eq_iff_iff, HB1'.out, HB2]
    exact ⟨fun h => h.symm, fun h => h.symm⟩
  subst e2
  clear HB2
  cases B1 with
  | false =>
    go_wp2_with fail
    go_ret
    exact ⟨rfl, hb16⟩
  | true =>
    have S1 : Hid (Sa.Sam n m x y) := HB1'.out.1 (by simp)
    clear HB1'
    go_wp2_with fail
    refine (same_any bo co m l c2 c3 y z _ (HY.out.later hb36) (HZ.out.later hb36) (by omega) (by omega) RY.out RZ.out).mono ?_
    rintro e w7 ⟨B3, rfl, HB3, hb7⟩
    have hb37 := hb36.trans (hb7.mono hb36.size)
    have hb17 := hb16.trans (hb7.mono hb16.size)
    cases B3 with
    | false =>
      clear HB3
      go_wp2_with fail
      go_ret
      exact ⟨rfl, hb17⟩
    | true =>
      have S2 : Hid (Sa.Sam m l y z) := HB3.1 rfl
      clear HB3
      go_wp2_with fail
      refine (same_any ao co n l c1 c3 x z _ (HX.out.later hb37) (HZ.out.later hb37) (by omega) (by omega) RX.out RZ.out).mono ?_
      rintro e w8 ⟨B4, rfl, HB4, hb8⟩
      have hb18 := hb17.trans (hb8.mono hb17.size)
      have e4 : B4 = true := HB4.2 (S1.out.trans S2.out)
      subst e4
      clear HB4
      go_wp2_with fail
      go_ret
      exact ⟨rfl, hb18⟩

set_option maxRecDepth 100000 in
set_option maxHeartbeats 1000000 in
theorem equiv_long (a b c : Option Addr) (n m l ca cb cc : Nat) (w : World) (hn : n ≤ maxLen) (hm : m ≤ maxLen) (hl : l ≤ maxLen) (hnm : ¬ n + m + l ≤ 1048576) :
    Calls Try.prog 5 #[.slice a n ca, .slice b m cb, .slice c l cc] w fun e w' => e = .returned (.bool true) ∧ Below w.heap.size w w' := by
  unfold maxLen at hn hm hl
  by_cases h1 : n ≤ 1048576
  · by_cases h2 : m ≤ 1048576
    · by_cases h3 : n + m ≤ 1048576
      · by_cases h4 : l ≤ 1048576
        · go_enter Try.func5, Try.ntmps5
          go_wp2
          go_ret
          exact ⟨rfl, Below.refl _ _⟩
        · go_enter Try.func5, Try.ntmps5
          go_wp2
          go_ret
          exact ⟨rfl, Below.refl _ _⟩
      · go_enter Try.func5, Try.ntmps5
        go_wp2
        go_ret
        exact ⟨rfl, Below.refl _ _⟩
    · go_enter Try.func5, Try.ntmps5
      go_wp2
      go_ret
      exact ⟨rfl, Below.refl _ _⟩
  · go_enter Try.func5, Try.ntmps5
    go_wp2
    go_ret
    exact ⟨rfl, Below.refl _ _⟩

theorem equiv_any (a b c : Option Addr) (n m l ca cb cc : Nat) (x y z : List Int) (w : World) (hx : IsRow .u8 w a n ca x) (hy : IsRow .u8 w b m cb y) (hz : IsRow .u8 w c l cc z) :
    Calls Try.prog 5 #[.slice a n ca, .slice b m cb, .slice c l cc] w fun e w' => e = .returned (.bool true) ∧ Below w.heap.size w w' := by
  by_cases h : n + m + l ≤ 1048576
  · exact equiv_walk a b c n m l ca cb cc x y z w hx hy hz h
  · exact equiv_long a b c n m l ca cb cc w hx.len_le hy.len_le hz.len_le h
end Go.Proofs.Qxb6601654a
