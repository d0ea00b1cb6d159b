/-
  THE WALKS OF 'zzCopyRecords' (17) AND 'zzMessage' (18): records of six cells, copied into rows of the call's own.
-/
import Derived.Test.Qxb6601654aSame
import Derived.Test.Qxb6601654aRcPlain
import Derived.BigRegion
namespace Go.Proofs.Qxb6601654a
open Go.ChangeShapes Go.WideShapes Go.ChangeAt Go.RowKit

/-- Six cells of memory that hold a record. -/
def RecAt (w : World) (b o : Nat) (r : R6) : Prop :=
  w.cell? ⟨b, o, none⟩ = some (.int .u16 r.t) ∧ w.cell? ⟨b, o + 1, none⟩ = some (.int .u16 r.c) ∧ w.cell? ⟨b, o + 2, none⟩ = some (.int .u32 r.l) ∧
  w.cell? ⟨b, o + 3, none⟩ = some (.int .i64 r.s) ∧ w.cell? ⟨b, o + 4, none⟩ = some (.int .i64 r.d) ∧ w.cell? ⟨b, o + 5, none⟩ = some (.int .i64 r.e)

theorem Try.info42 : (Try.prog.info? 42).map (fun i => (i.zero, i.size, i.bytes)) = some (some (.agg #[.int .u16 0, .int .u16 0, .int .u32 0, .int .i64 0, .int .i64 0, .int .i64 0]), 6, 32) := by kernel_rfl
theorem Try.info50 : (Try.prog.info? 50).map (fun i => (i.zero, i.size, i.bytes)) = some (some (.agg #[.int .u16 0, .int .u16 0, .int .u32 0, .int .i64 0, .int .i64 0, .int .i64 0]), 6, 32) := by kernel_rfl

/-- A record stored, cell by cell. -/
def put6 (w : World) (g o : Nat) (r : R6) : World :=
  (((((w.setCell ⟨g, o, none⟩ (.int .u16 r.t)).setCell ⟨g, o + 1, none⟩ (.int .u16 r.c)).setCell ⟨g, o + 2, none⟩ (.int .u32 r.l)).setCell ⟨g, o + 3, none⟩ (.int .i64 r.s)).setCell ⟨g, o + 4, none⟩ (.int .i64 r.d)).setCell ⟨g, o + 5, none⟩ (.int .i64 r.e)

theorem cell_set_ne (w : World) (g o j : Nat) (u : Value) (h : j ≠ o) : (w.setCell ⟨g, o, none⟩ u).cell? ⟨g, j, none⟩ = w.cell? ⟨g, j, none⟩ :=
  World.cell?_setCell_other w _ _ _ (fun e => h (by injection e with _ e2; exact e2.symm))

theorem cell_set_eq (w : World) (g o : Nat) (u : Value) (h : (w.cell? ⟨g, o, none⟩).isSome = true) : (w.setCell ⟨g, o, none⟩ u).cell? ⟨g, o, none⟩ = some u := World.cell?_setCell_same' w _ _ h

theorem put6_other (w : World) (g o j : Nat) (r : R6) (h : j < o ∨ o + 6 ≤ j) : (put6 w g o r).cell? ⟨g, j, none⟩ = w.cell? ⟨g, j, none⟩ := by
  unfold put6
  rw [cell_set_ne _ _ _ _ _ (by omega), cell_set_ne _ _ _ _ _ (by omega), cell_set_ne _ _ _ _ _ (by omega), cell_set_ne _ _ _ _ _ (by omega), cell_set_ne _ _ _ _ _ (by omega), cell_set_ne _ _ _ _ _ (by omega)]

theorem RecAt.other {w : World} {g o o' : Nat} {r : R6} (h : RecAt w g o r) (r' : R6) (ho : o + 6 ≤ o' ∨ o' + 6 ≤ o) : RecAt (put6 w g o' r') g o r := by
  obtain ⟨h0, h1, h2, h3, h4, h5⟩ := h
  refine ⟨?_, ?_, ?_, ?_, ?_, ?_⟩
  · rw [put6_other _ _ _ _ _ (by omega)]; exact h0
  · rw [put6_other _ _ _ _ _ (by omega)]; exact h1
  · rw [put6_other _ _ _ _ _ (by omega)]; exact h2
  · rw [put6_other _ _ _ _ _ (by omega)]; exact h3
  · rw [put6_other _ _ _ _ _ (by omega)]; exact h4
  · rw [put6_other _ _ _ _ _ (by omega)]; exact h5

theorem RecAt.put {w : World} {g o : Nat} (r : R6) (h : ∀ j, j < 6 → (w.cell? ⟨g, o + j, none⟩).isSome = true) : RecAt (put6 w g o r) g o r := by
  unfold put6
  have h0 := h 0 (by omega)
  have h1 := h 1 (by omega)
  have h2 := h 2 (by omega)
  have h3 := h 3 (by omega)
  have h4 := h 4 (by omega)
  have h5 := h 5 (by omega)
  rw [Nat.add_zero] at h0
  refine ⟨?_, ?_, ?_, ?_, ?_, ?_⟩
  · rw [cell_set_ne _ _ _ _ _ (by omega), cell_set_ne _ _ _ _ _ (by omega), cell_set_ne _ _ _ _ _ (by omega), cell_set_ne _ _ _ _ _ (by omega), cell_set_ne _ _ _ _ _ (by omega)]
    exact cell_set_eq _ _ _ _ h0
  · rw [cell_set_ne _ _ _ _ _ (by omega), cell_set_ne _ _ _ _ _ (by omega), cell_set_ne _ _ _ _ _ (by omega), cell_set_ne _ _ _ _ _ (by omega)]
    exact cell_set_eq _ _ _ _ (by rw [cell_set_ne _ _ _ _ _ (by omega)]; exact h1)
  · rw [cell_set_ne _ _ _ _ _ (by omega), cell_set_ne _ _ _ _ _ (by omega), cell_set_ne _ _ _ _ _ (by omega)]
    exact cell_set_eq _ _ _ _ (by rw [cell_set_ne _ _ _ _ _ (by omega), cell_set_ne _ _ _ _ _ (by omega)]; exact h2)
  · rw [cell_set_ne _ _ _ _ _ (by omega), cell_set_ne _ _ _ _ _ (by omega)]
    exact cell_set_eq _ _ _ _ (by rw [cell_set_ne _ _ _ _ _ (by omega), cell_set_ne _ _ _ _ _ (by omega), cell_set_ne _ _ _ _ _ (by omega)]; exact h3)
  · rw [cell_set_ne _ _ _ _ _ (by omega)]
    exact cell_set_eq _ _ _ _ (by rw [cell_set_ne _ _ _ _ _ (by omega), cell_set_ne _ _ _ _ _ (by omega), cell_set_ne _ _ _ _ _ (by omega), cell_set_ne _ _ _ _ _ (by omega)]; exact h4)
  · exact cell_set_eq _ _ _ _ (by rw [cell_set_ne _ _ _ _ _ (by omega), cell_set_ne _ _ _ _ _ (by omega), cell_set_ne _ _ _ _ _ (by omega), cell_set_ne _ _ _ _ _ (by omega), cell_set_ne _ _ _ _ _ (by omega)]; exact h5)

/-- Block g is a row of n records of the call's own (of struct type ty): its cells are there and may be written. -/
def Row6 (w : World) (ty : TypeId) (g n : Nat) : Prop := ∃ xs, w.ownsRow g ty 6 (.slice (some ⟨g, 0, none⟩) n n) n xs

theorem Row6.lt {w : World} {ty : TypeId} {g n : Nat} (h : Row6 w ty g n) : g < w.heap.size := by
  obtain ⟨xs, h⟩ := h
  exact (World.ownsRow.lt h g rfl).2

theorem Row6.cell {w : World} {ty : TypeId} {g n : Nat} (h : Row6 w ty g n) (j : Nat) (hj : j < n * 6) : ∃ v, w.cell? ⟨g, j, none⟩ = some v := by
  obtain ⟨xs, h⟩ := h
  have hl := h.1
  exact ⟨xs[j], by rw [World.ownsRow.cellAt h j hj, List.getElem?_eq_getElem (by omega)]⟩

theorem Row6.frozen {w : World} {ty : TypeId} {g n : Nat} (h : Row6 w ty g n) (j : Nat) : w.frozen? ⟨g, j, none⟩ = false := by
  obtain ⟨xs, h⟩ := h
  exact World.ownsRow.frozenAt h j

theorem Row6.put {w : World} {ty : TypeId} {g n : Nat} (h : Row6 w ty g n) (o : Nat) (r : R6) : Row6 (put6 w g o r) ty g n := by
  obtain ⟨xs, h⟩ := h
  exact ⟨_, (World.ownsRow.stored ((World.ownsRow.stored (World.ownsRow.stored (World.ownsRow.stored (World.ownsRow.stored (World.ownsRow.stored h _ _).1 _ _).1 _ _).1 _ _).1 _ _).1) _ _).1⟩

theorem below_put6 {B : Nat} {a w : World} (h : Below B a w) {g : Nat} (hg : B ≤ g) (o : Nat) (r : R6) : Below B a (put6 w g o r) := by
  unfold put6
  exact (((((h.setCell hg _).setCell hg _).setCell hg _).setCell hg _).setCell hg _).setCell hg _

theorem Row6.drew {w : World} {ty : TypeId} {g n : Nat} (h : Row6 w ty g n) : Row6 w.drew ty g n := by
  obtain ⟨xs, h⟩ := h
  exact ⟨xs, h.drew⟩

theorem RecAt.drew {w : World} {b o : Nat} {r : R6} (h : RecAt w b o r) : RecAt w.drew b o r := h

/-- A copy of the call's own: n records: nil, or a row at the head of a block. -/
def Rs (w : World) (ao : Option Addr) (n c : Nat) (R : Nat → R6) : Prop := 0 < n → ∃ g, ao = some ⟨g, 0, none⟩ ∧ c = n ∧ g < w.heap.size ∧ ∀ i, i < n → RecAt w g (i * 6) (R i)

theorem RecAt.later {w w' : World} {b o B : Nat} {r : R6} (h : RecAt w b o r) (hb : Below B w w') (hB : b < B) : RecAt w' b o r := by
  obtain ⟨h0, h1, h2, h3, h4, h5⟩ := h
  exact ⟨(hb.cell hB).trans h0, (hb.cell hB).trans h1, (hb.cell hB).trans h2, (hb.cell hB).trans h3, (hb.cell hB).trans h4, (hb.cell hB).trans h5⟩

theorem Rs.later {w w' : World} {ao : Option Addr} {n c : Nat} {R : Nat → R6} (h : Rs w ao n c R) (hb : Below w.heap.size w w') : Rs w' ao n c R := by
  intro hn
  obtain ⟨g, h1, h2, h3, h4⟩ := h hn
  exact ⟨g, h1, h2, Nat.lt_of_lt_of_le h3 hb.size, fun i hi => (h4 i hi).later hb h3⟩

/-- WHAT THE WALK IS TOLD OF A SLICE OF RECORDS THAT CAME IN. -/
def IsRecs (w : World) (a : Option Addr) (len cap : Nat) (R : Nat → R6) : Prop :=
  (a = none ∧ len = 0 ∧ cap = 0) ∨
  ∃ x, a = some x ∧ len ≤ cap ∧ cap ≤ maxLen ∧ (0 < len → x.spot = none ∧ x.block < w.heap.size ∧ ∀ i, i < len → RecAt w x.block (x.off + i * 6) (R i))

theorem IsRecs.later {w w' : World} {a : Option Addr} {len cap : Nat} {R : Nat → R6} (h : IsRecs w a len cap R) (hb : Below w.heap.size w w') : IsRecs w' a len cap R := by
  rcases h with h | ⟨x, h1, h2, h3, h4⟩
  · exact Or.inl h
  · refine Or.inr ⟨x, h1, h2, h3, fun hl => ?_⟩
    obtain ⟨k1, k2, k3⟩ := h4 hl
    exact ⟨k1, Nat.lt_of_lt_of_le k2 hb.size, fun i hi => (k3 i hi).later hb k2⟩

theorem IsRecs.len_le {w : World} {a : Option Addr} {len cap : Nat} {R : Nat → R6} (h : IsRecs w a len cap R) : len ≤ maxLen := by
  rcases h with ⟨_, rfl, _⟩ | ⟨x, h1, h2, h3, _⟩
  · exact Nat.zero_le _
  · omega

set_option maxHeartbeats 400000 in
/-- 'zzCopyRecords'. -/
theorem copyr_any (a : Option Addr) (n cap : Nat) (R : Nat → R6) (w : World) (w0 : IsRecs w a n cap R) (hn : n ≤ 32768) :
    Calls Try.prog 17 #[.slice a n cap] w fun e w' => ∃ ao c, e = .returned (.slice ao n c) ∧ Rs w' ao n c R ∧ (ao = none → n = 0 ∧ c = 0) ∧ Below w.heap.size w w' := by
  obtain ⟨i0, hi, hz0, hz1, hz2⟩ := info_parts Try.info42
  have hby : i0.bytes * n ≤ 281474976710656 := by rw [hz2]; omega
  have hml : n ≤ maxLen := by unfold maxLen; omega
  have heq := fun w => Lib.run_eql_slice_nil (P := Try.prog) w 33 42 a n cap 0 0 Try.underlying33
  rcases w0 with ⟨rfl, rfl, rfl⟩ | ⟨⟨b, off, spot⟩, rfl, hlc, hcm, hcell⟩
  · go_enter Try.func17, Try.ntmps17
    go_wp2_with fail
    go_ret
    exact ⟨none, 0, rfl, fun h => absurd h (by omega), by simp, Below.refl _ _⟩
  · go_enter Try.func17, Try.ntmps17
    go_wp2_with (at_make; refine wpList_make_full _ rfl _ _ 33 rfl w.heap.size 42 i0 _ 6 Try.underlying33 hi hz0 hz1 _ _ _ _ n rfl rfl rfl rfl hby hml (Nat.le_refl _) ?_; intro w1 hown hgrow)
    go_loopg [4] n (fun g i wr => ∃ k : Nat, k + g = n ∧ i = .int .i64 k ∧ Row6 wr 42 w.heap.size n ∧ Hid (∀ i, i < k → RecAt wr w.heap.size (i * 6) (R i)) ∧ Below w.heap.size w wr)
    case atStart => exact ⟨0, by omega, rfl, ⟨_, hown⟩, (fun i hi => by omega), (Below.refl _ _).grown hgrow (Nat.le_refl _) (fun k h => by cases h)⟩
    case round =>
      obtain ⟨k, hkg, rfl, HO, HR, hbel⟩ := hrel
      clear hown hgrow heq
      by_cases hk : k < n
      · obtain ⟨hsp, hbw, hcc⟩ := hcell (by omega)
        replace hsp : spot = none := hsp
        replace hbw : b < w.heap.size := hbw
        replace hcc : ∀ i, i < n → RecAt w b (off + i * 6) (R i) := hcc
        subst hsp
        obtain ⟨c0, c1, c2, c3, c4, c5⟩ := (hcc k hk).later hbel hbw
        have HP : Hid (RecAt (put6 wr w.heap.size (k * 6) (R k)) w.heap.size (k * 6) (R k)) := RecAt.put (R k) (fun j hj => by obtain ⟨v, hv⟩ := HO.cell (k * 6 + j) (by omega); rw [hv]; rfl)
        have HP2 : Hid (∀ i, i < k → RecAt (put6 wr w.heap.size (k * 6) (R k)) w.heap.size (i * 6) (R i)) := fun i hi => (HR.out i hi).other (R k) (by omega)
        have HP3 : Hid (Row6 (put6 wr w.heap.size (k * 6) (R k)) 42 w.heap.size n) := HO.put _ _
        have HP4 : Hid (Below w.heap.size w (put6 wr w.heap.size (k * 6) (R k))) := below_put6 hbel (Nat.le_refl _) _ _
        obtain ⟨v0, d0⟩ := HO.cell (k * 6) (by omega)
        obtain ⟨v1, d1⟩ := HO.cell (k * 6 + 1) (by omega)
        obtain ⟨v2, d2⟩ := HO.cell (k * 6 + 2) (by omega)
        obtain ⟨v3, d3⟩ := HO.cell (k * 6 + 3) (by omega)
        obtain ⟨v4, d4⟩ := HO.cell (k * 6 + 4) (by omega)
        obtain ⟨v5, d5⟩ := HO.cell (k * 6 + 5) (by omega)
        have f0 := HO.frozen (k * 6)
        have f1 := HO.frozen (k * 6 + 1)
        have f2 := HO.frozen (k * 6 + 2)
        have f3 := HO.frozen (k * 6 + 3)
        have f4 := HO.frozen (k * 6 + 4)
        have f5 := HO.frozen (k * 6 + 5)
        clear hcc hcell
        go_wp2
        go_roundg (gk - 1)
        case measure => go_light; omega
        case rel =>
          go_light
          refine ⟨k + 1, by omega, by go_num, HP3.out, fun i hi => ?_, HP4.out⟩
          by_cases e : i = k
          · rw [e]; exact HP.out
          · exact HP2.out i (by omega)
      · go_wp2
        go_ret
        exact ⟨_, _, rfl, fun _ => ⟨w.heap.size, rfl, rfl, HO.lt, fun j hj => HR.out j (by omega)⟩, (fun h => by cases h), hbel⟩

set_option maxRecDepth 100000 in
set_option maxHeartbeats 2000000 in
/-- 'zzMessage'. -/
theorem message_any (fl an ns : Int) (qo : Option Addr) (qn qc : Nat) (ao : Option Addr) (n c : Nat) (R : Nat → R6) (w : World) (w0 : Rs w ao n c R) (hnil : ao = none → n = 0 ∧ c = 0) (hn : n ≤ 32768) :
    Calls Try.prog 18 #[.int .u16 fl, .slice qo qn qc, .slice ao n c, .int .i64 an, .int .i64 ns] w fun e w' => ∃ m ro rc, e = .returned (.pointer (some ⟨m, 0, none⟩)) ∧ m < w'.heap.size ∧
      w'.cell? ⟨m, 0, none⟩ = some (.int .u16 fl) ∧ w'.cell? ⟨m, 2, none⟩ = some (.slice ro n rc) ∧ w'.cell? ⟨m, 3, none⟩ = some (.int .i64 an) ∧ w'.cell? ⟨m, 4, none⟩ = some (.int .i64 ns) ∧ Rs w' ro n rc R ∧ Below w.heap.size w w' := by
  obtain ⟨i0, hi, hz0, hz1, hz2⟩ := info_parts Try.info50
  have hby : i0.bytes * n ≤ 281474976710656 := by rw [hz2]; omega
  have hml : n ≤ maxLen := by unfold maxLen; omega
  have hne := fun w => run_neq_slice_nil_any (P := Try.prog) w 33 42 ao n c 0 0 Try.underlying33
  go_enter Try.func18, Try.ntmps18
  go_upto_if 14 with fail
  go_cut [11] (fun v wr => ∃ ro rc, v = .slice ro n rc ∧ Rs wr ro n rc R ∧ Below w.heap.size w wr)
  case first =>
    by_cases hao : ao = none
    · obtain ⟨rfl, rfl⟩ := hnil hao
      subst hao
      go_wp2_with fail
      go_meet
      case rel => exact ⟨none, 0, rfl, fun h => absurd h (by omega), Below.refl _ _⟩
    · obtain ⟨⟨xb, xo, xs⟩, rfl⟩ : ∃ x, ao = some x := by cases ao with | none => exact absurd rfl hao | some x => exact ⟨x, rfl⟩
      go_wp2_with (at_make; refine wpList_make_full _ rfl _ _ 49 rfl w.heap.size 50 i0 _ 6 Try.underlying49 hi hz0 hz1 _ _ _ _ n rfl rfl rfl rfl hby hml (Nat.le_refl _) ?_; intro w1 hown hgrow)
      go_loopg [12] n (fun g i wr => ∃ k : Nat, k + g = n ∧ i = .int .i64 k ∧ Row6 wr 50 w.heap.size n ∧ Hid (∀ i, i < k → RecAt wr w.heap.size (i * 6) (R i)) ∧ Below w.heap.size w wr)
      case atStart => exact ⟨0, by omega, rfl, ⟨_, hown⟩, (fun i hi => by omega), (Below.refl _ _).grown hgrow (Nat.le_refl _) (fun k h => by cases h)⟩
      case round =>
        obtain ⟨k, hkg, rfl, HO, HR, hbel⟩ := hrel
        clear hown hgrow hne
        by_cases hk : k < n
        · obtain ⟨g, hge, rfl, hgw, hcc⟩ := w0 (by omega)
          injection hge with hge
          injection hge with hg1 hg2 hg3
          subst hg1; subst hg2; subst hg3
          obtain ⟨c0, c1, c2, c3, c4, c5⟩ := (hcc k hk).later hbel hgw
          have HP : Hid (RecAt (put6 wr w.heap.size (k * 6) (R k)) w.heap.size (k * 6) (R k)) := RecAt.put (R k) (fun j hj => by obtain ⟨v, hv⟩ := HO.cell (k * 6 + j) (by omega); rw [hv]; rfl)
          have HP2 : Hid (∀ i, i < k → RecAt (put6 wr w.heap.size (k * 6) (R k)) w.heap.size (i * 6) (R i)) := fun i hi => (HR.out i hi).other (R k) (by omega)
          have HP3 : Hid (Row6 (put6 wr w.heap.size (k * 6) (R k)) 50 w.heap.size c) := HO.put _ _
          have HP4 : Hid (Below w.heap.size w (put6 wr w.heap.size (k * 6) (R k))) := below_put6 hbel (Nat.le_refl _) _ _
          obtain ⟨v0, d0⟩ := HO.cell (k * 6) (by omega)
          obtain ⟨v1, d1⟩ := HO.cell (k * 6 + 1) (by omega)
          obtain ⟨v2, d2⟩ := HO.cell (k * 6 + 2) (by omega)
          obtain ⟨v3, d3⟩ := HO.cell (k * 6 + 3) (by omega)
          obtain ⟨v4, d4⟩ := HO.cell (k * 6 + 4) (by omega)
          obtain ⟨v5, d5⟩ := HO.cell (k * 6 + 5) (by omega)
          have f0 := HO.frozen (k * 6)
          have f1 := HO.frozen (k * 6 + 1)
          have f2 := HO.frozen (k * 6 + 2)
          have f3 := HO.frozen (k * 6 + 3)
          have f4 := HO.frozen (k * 6 + 4)
          have f5 := HO.frozen (k * 6 + 5)
          have hkI : (k : Int) < (c : Int) := by omega
          clear hcc w0 hao
          go_wp2_with fail
          go_region
          go_wp2_with fail
          go_roundg (gk - 1)
          case measure => go_light; omega
          case rel =>
            go_light
            refine ⟨k + 1, by omega, by go_num, ?_⟩
            have key : ∀ W, W = (put6 wr w.heap.size (k * 6) (R k)).drew → (Row6 W 50 w.heap.size c ∧ Hid (∀ i, i < k + 1 → RecAt W w.heap.size (i * 6) (R i)) ∧ Below w.heap.size w W) := by
              intro W hW
              subst hW
              refine ⟨HP3.out.drew, fun i hi => ?_, HP4.out.drew⟩
              by_cases e : i = k
              · rw [e]; exact HP.out.drew
              · exact (HP2.out i (by omega)).drew
            exact key _ rfl
        · go_wp2
          go_meet
          case rel =>
            go_light
            exact ⟨_, _, rfl, fun _ => ⟨w.heap.size, rfl, rfl, HO.lt, fun j hj => HR.out j (by omega)⟩, hbel⟩
  case rest =>
    obtain ⟨ro, rc, rfl, HR, hbel⟩ := hcut
    clear w0 hne
    go_wp2_with fail
    go_ret
    refine ⟨wc.heap.size, ro, rc, rfl, by simp, by simp, by simp, by simp, by simp, ?_, hbel.alloc hbel.size _⟩
    exact HR.later ((Below.refl _ _).alloc (Nat.le_refl _) _)
end Go.Proofs.Qxb6601654a
