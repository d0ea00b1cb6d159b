/-
  THE PROOF OF 'Rows.FnRcodeMatchesBitModelSaid': the guide's frame (typed by hand after the shells: a slice of records is opened by 'Deep.open_slice'); the walk lies in Qxb6601654aRcode.
-/
import Derived.Test.Qxb6601654aRows
import Derived.Test.Qxb6601654aRcode
import Derived.WalkKit
import Derived.ProofKit
import Derived.OpenShut
import Derived.ShutString
import Derived.ChangeOld
import Derived.Below
import Derived.Deep.Slices
namespace Go.Proofs.Qxb6601654a.fnRcodeMatchesBitModel
open Go.ChangeShapes Go.WideShapes Go.ChangeAt Go.RowKit
open Go.ChangeMaps (open_string shut_string)
set_option linter.unusedVariables false

theorem own : ownKnob Try.prog.godebug = none := by kernel_rfl
theorem laidOut : laidOutB Try.prog = true := by kernel_rfl
theorem cells42 : Try.prog.cellsOf 42 = 6 := by kernel_rfl
theorem cells22 : Try.prog.cellsOf 22 = 1 := by kernel_rfl
theorem cells40 : Try.prog.cellsOf 40 = 1 := by kernel_rfl
theorem cells3 : Try.prog.cellsOf 3 = 1 := by kernel_rfl

/-- ONE RECORD OPENED: six integers, each fitting its kind. -/
theorem rec_cells {H : Type} {enc : TypeId × Value → H} {w : World} {base : Nat} {spare : Nat → Bool} {held : Bool} {n : Nat} {cs : List Value} {y : DataW H × List MemPlace}
    (h : DataW.trod enc Try.prog w base spare held n 42 cs = some y) :
    ∃ r : R6, cs = [.int .u16 r.t, .int .u16 r.c, .int .u32 r.l, .int .i64 r.s, .int .i64 r.d, .int .i64 r.e] ∧ 0 ≤ r.l ∧ r.l ≤ 4294967295 := by
  obtain ⟨xs, k, _, _, hl, hlen, hf⟩ := DataW.trod_struct Try.underlying42 h
  rw [cells42] at hl
  match cs, hl with
  | [c0, c1, c2, c3, c4, c5], _ =>
    match xs, hlen with
    | [y0, y1, y2, y3, y4, y5], _ =>
      have f0 : DataW.trod enc Try.prog w base spare held k 22 [c0] = some y0 := by
        have g : DataW.trod enc Try.prog w base spare held k 22 (List.take (Try.prog.cellsOf 22) (List.drop 0 [c0, c1, c2, c3, c4, c5])) = [y0, y1, y2, y3, y4, y5][0]? := hf 0 _ rfl
        rw [cells22] at g
        exact g
      have f1 : DataW.trod enc Try.prog w base spare held k 22 [c1] = some y1 := by
        have g : DataW.trod enc Try.prog w base spare held k 22 (List.take (Try.prog.cellsOf 22) (List.drop 1 [c0, c1, c2, c3, c4, c5])) = [y0, y1, y2, y3, y4, y5][1]? := hf 1 _ rfl
        rw [cells22] at g
        exact g
      have f2 : DataW.trod enc Try.prog w base spare held k 40 [c2] = some y2 := by
        have g : DataW.trod enc Try.prog w base spare held k 40 (List.take (Try.prog.cellsOf 40) (List.drop 2 [c0, c1, c2, c3, c4, c5])) = [y0, y1, y2, y3, y4, y5][2]? := hf 2 _ rfl
        rw [cells40] at g
        exact g
      have f3 : DataW.trod enc Try.prog w base spare held k 3 [c3] = some y3 := by
        have g : DataW.trod enc Try.prog w base spare held k 3 (List.take (Try.prog.cellsOf 3) (List.drop 3 [c0, c1, c2, c3, c4, c5])) = [y0, y1, y2, y3, y4, y5][3]? := hf 3 _ rfl
        rw [cells3] at g
        exact g
      have f4 : DataW.trod enc Try.prog w base spare held k 3 [c4] = some y4 := by
        have g : DataW.trod enc Try.prog w base spare held k 3 (List.take (Try.prog.cellsOf 3) (List.drop 4 [c0, c1, c2, c3, c4, c5])) = [y0, y1, y2, y3, y4, y5][4]? := hf 4 _ rfl
        rw [cells3] at g
        exact g
      have f5 : DataW.trod enc Try.prog w base spare held k 3 [c5] = some y5 := by
        have g : DataW.trod enc Try.prog w base spare held k 3 (List.take (Try.prog.cellsOf 3) (List.drop 5 [c0, c1, c2, c3, c4, c5])) = [y0, y1, y2, y3, y4, y5][5]? := hf 5 _ rfl
        rw [cells3] at g
        exact g
      obtain ⟨a0, e0, _, _⟩ := DataW.trod_int Try.underlying22 f0
      obtain ⟨a1, e1, _, _⟩ := DataW.trod_int Try.underlying22 f1
      obtain ⟨a2, e2, _, wf2⟩ := DataW.trod_int Try.underlying40 f2
      obtain ⟨a3, e3, _, _⟩ := DataW.trod_int Try.underlying3 f3
      obtain ⟨a4, e4, _, _⟩ := DataW.trod_int Try.underlying3 f4
      obtain ⟨a5, e5, _, _⟩ := DataW.trod_int Try.underlying3 f5
      simp only [List.cons.injEq, and_true] at e0 e1 e2 e3 e4 e5
      subst e0; subst e1; subst e2; subst e3; subst e4; subst e5
      have b := bounds_u32 wf2
      exact ⟨⟨a0, a1, a2, a3, a4, a5⟩, rfl, b.1, b.2⟩

/-- ONE RECORD IN MEMORY. -/
theorem rec_at {H : Type} {enc : TypeId × Value → H} {w : World} {base : Nat} {spare : Nat → Bool} {held : Bool} {n b off o : Nat} {cs : List Value} {y : DataW H × List MemPlace}
    (h1 : w.cells? base ((⟨b, off, none⟩ : Addr).add o) (Try.prog.cellsOf 42) = some cs) (h : DataW.trod enc Try.prog w base spare held n 42 cs = some y) :
    ∃ r : R6, RecAt w b (off + o) r ∧ 0 ≤ r.l ∧ r.l ≤ 4294967295 := by
  obtain ⟨r, rfl, b1, b2⟩ := rec_cells h
  obtain ⟨_, _, hc⟩ := World.cells?_some h1
  rw [cells42] at hc
  have key : ∀ j, j < 6 → w.cell? ⟨b, off + o + j, none⟩ = [Value.int .u16 r.t, .int .u16 r.c, .int .u32 r.l, .int .i64 r.s, .int .i64 r.d, .int .i64 r.e][j]? := by
    intro j hj
    rw [← hc j hj, Addr.add_lit, Addr.add_lit]
  exact ⟨r, ⟨key 0 (by omega), key 1 (by omega), key 2 (by omega), key 3 (by omega), key 4 (by omega), key 5 (by omega)⟩, b1, b2⟩

/-- A SLICE OF RECORDS OPENED. -/
theorem open_recs {H : Type} {enc : TypeId × Value → H} {w : World} {held : Bool} {fuel : Nat} {a : Option Addr} {len cap : Nat} {x : DataW H × List MemPlace}
    (h : DataW.trod enc Try.prog w 0 (fun _ => true) held fuel 33 (Value.slice a len cap).cells.toList = some x) :
    ∃ R : Nat → R6, IsRecs w a len cap R ∧ ∀ i, 0 ≤ (R i).l ∧ (R i).l ≤ 4294967295 := by
  rcases Deep.open_slice Try.underlying33 h with ⟨hcs, _⟩ | ⟨ad, l, c, m, n, D, Pl, hcs, _, hl, hm, hmm, _, hx⟩
  · simp [Value.cells] at hcs
    obtain ⟨rfl, rfl, rfl⟩ := hcs
    exact ⟨fun _ => ⟨0, 0, 0, 0, 0, 0⟩, Or.inl ⟨rfl, rfl, rfl⟩, fun _ => ⟨by simp, by simp⟩⟩
  · simp [Value.cells] at hcs
    obtain ⟨rfl, rfl, rfl⟩ := hcs
    simp only [if_true] at hmm
    subst hmm
    by_cases h0 : 0 < len
    · obtain ⟨b, off, spot⟩ := ad
      have hsp : spot = none := by
        obtain ⟨cs, h1, h2⟩ := hx 0 (by omega)
        obtain ⟨r, rfl, _⟩ := rec_cells h2
        obtain ⟨_, _, hc⟩ := World.cells?_some h1
        have := hc 0 (by rw [cells42]; omega)
        rw [Nat.zero_mul] at this
        simpa [Addr.add] using World.cell?_spot (this.trans (by rfl))
      subst hsp
      have hall : ∀ i, i < m → ∃ r : R6, RecAt w b (off + i * 6) r ∧ 0 ≤ r.l ∧ r.l ≤ 4294967295 := by
        intro i hi
        obtain ⟨cs, h1, h2⟩ := hx i hi
        rw [cells42] at h1
        exact rec_at (by rw [cells42]; exact h1) h2
      obtain ⟨r0, hr0, b0⟩ := hall 0 (by omega)
      have hlt : b < w.heap.size := World.block_lt_of_cell? w _ hr0.1
      refine ⟨fun i => if hi : i < m then Classical.choose (hall i hi) else ⟨0, 0, 0, 0, 0, 0⟩, Or.inr ⟨_, rfl, hl, hm, fun _ => ⟨rfl, hlt, fun i hi => ?_⟩⟩, fun i => ?_⟩
      · have hi' : i < m := by omega
        simp only [dif_pos hi']
        exact (Classical.choose_spec (hall i hi')).1
      · by_cases hi : i < m
        · simp only [dif_pos hi]
          exact (Classical.choose_spec (hall i hi)).2
        · simp only [dif_neg hi]
          exact ⟨by simp, by simp⟩
    · exact ⟨fun _ => ⟨0, 0, 0, 0, 0, 0⟩, Or.inr ⟨_, rfl, hl, hm, fun h => absurd h h0⟩, fun _ => ⟨by simp, by simp⟩⟩

/-! ### STEP 1: THE WALK: the Go text returns true, AND WRITES NOTHING THAT WAS THERE -/
theorem walk (a0 : Int) (a1 : Option Addr) (len1 cap1 : Nat) (z1 : List Int) (a2 : Option Addr) (len2 cap2 : Nat) (R : Nat → R6) (a3 a4 : Int) (w : World) (w0 : (Lit.int .u16 a0).wf = true) (w1 : IsRow .u8 w a1 len1 cap1 z1) (w2 : IsRecs w a2 len2 cap2 R)
    (hl : ∀ i, 0 ≤ (R i).l ∧ (R i).l ≤ 4294967295) (w3 : (Lit.int .i64 a3).wf = true) (w4 : (Lit.int .i64 a4).wf = true) :
    Calls Try.prog 6 #[.int .u16 a0, .slice a1 len1 cap1, .slice a2 len2 cap2, .int .i64 a3, .int .i64 a4] w fun e w' => e = .returned (.bool true) ∧ Below w.heap.size w w' :=
  bit_any a0 a3 a4 a1 a2 len1 cap1 len2 cap2 z1 R w w0 w1 w2 hl w3 w4

/-! ### THE ROW's STEP -/
set_option maxRecDepth 100000 in
theorem lifted (os : Os) (started : os.Started) (H : Type) (enc : TypeId × Value → H) :
    ReturnsInHanded {} Try.checked os 6 .any (Rows.fnRcodeMatchesBitModelSpec.pre6 enc Try.prog Try.f6 Rows.fnRcodeMatchesBitModelRow.domain false) (Rows.fnRcodeMatchesBitModelSpec.post enc Try.prog Try.f6 false true false false) := by
  refine returnsInHanded_of_change (C := Try.checked) own started (by kernel_rfl) Try.func6
    (ChangeSpec.witness6 (enc := enc) (C := Try.checked) false ⟨#[], #[.int .u16 0, .slice none 0 0, .slice none 0 0, .int .i64 0, .int .i64 0], []⟩ 8 (by kernel_rfl) (by kernel_rfl) (by kernel_rfl) (by kernel_rfl)) ?_
  intro W base args ds gs before hval0 hW hcnd _
  have hval : ∀ (j : Nat) t v, Try.f6.params[j]? = some t → args[j]? = some v → Value.okWide Try.prog W .any base t v := hval0
  have hW' := hW
  obtain ⟨p, q, hA0, hV, rfl, hfz, hnd⟩ := hW
  have hA : DataW.TrodAll enc Try.prog W 0 (fun _ => true) true Try.f6.params.toList args.toList ds p := hA0
  rw [Try.params6] at hA hval
  obtain ⟨v0, vs0, d0, ds0, p0, q0, hargs, rfl, rfl, h0, r0⟩ := trodAll_cons hA
  obtain ⟨v1, vs1, d1, ds1, p1, q1, rfl, rfl, rfl, h1, r1⟩ := trodAll_cons r0
  obtain ⟨v2, vs2, d2, ds2, p2, q2, rfl, rfl, rfl, h2, r2⟩ := trodAll_cons r1
  obtain ⟨v3, vs3, d3, ds3, p3, q3, rfl, rfl, rfl, h3, r3⟩ := trodAll_cons r2
  obtain ⟨v4, vs4, d4, ds4, p4, q4, rfl, rfl, rfl, h4, r4⟩ := trodAll_cons r3
  obtain ⟨rfl, rfl, rfl⟩ := trodAll_nil r4
  obtain rfl : args = #[v0, v1, v2, v3, v4] := by cases args; simp_all
  obtain ⟨rfl, rfl⟩ := trodVars_none hV
  obtain ⟨a0, rfl, rfl, rfl, w0⟩ := open_int Try.underlying22 (hval 0 22 v0 rfl rfl) h0
  obtain ⟨a1, len1, cap1, rfl⟩ := okWide_slice Try.underlying29 (hval 1 29 v1 rfl rfl)
  have k1 := h1
  have lt1 : ∀ x ∈ p1, x.block < W.heap.size := by obtain ⟨m, hm⟩ := k1; exact DataW.trod_lt m _ _ _ hm
  obtain ⟨z1, w1⟩ : ∃ zs, IsRow .u8 W a1 len1 cap1 zs := by
    obtain ⟨fuel, hf⟩ := h1
    rcases open_ints Try.underlying29 Try.underlying5 (by kernel_rfl) hf with ⟨hcs, _⟩ | ⟨x, l, c, zs, hcs, _, hl, hm, hz, _, hcell, hwz⟩
    · simp [Value.cells] at hcs
      obtain ⟨rfl, rfl, rfl⟩ := hcs
      exact ⟨[], .inl ⟨rfl, rfl, rfl, rfl⟩⟩
    · simp [Value.cells] at hcs
      obtain ⟨rfl, rfl, rfl⟩ := hcs
      exact ⟨zs, .inr ⟨_, rfl, hl, hm, by simpa using hz, hcell, hwz⟩⟩
  obtain ⟨a2, len2, cap2, rfl⟩ := okWide_slice Try.underlying33 (hval 2 33 v2 rfl rfl)
  have k2 := h2
  have lt2 : ∀ x ∈ p2, x.block < W.heap.size := by obtain ⟨m, hm⟩ := k2; exact DataW.trod_lt m _ _ _ hm
  obtain ⟨R, w2, hl⟩ : ∃ R : Nat → R6, IsRecs W a2 len2 cap2 R ∧ ∀ i, 0 ≤ (R i).l ∧ (R i).l ≤ 4294967295 := by
    obtain ⟨fuel, hf⟩ := h2
    exact open_recs hf
  obtain ⟨a3, rfl, rfl, rfl, w3⟩ := open_int Try.underlying3 (hval 3 3 v3 rfl rfl) h3
  obtain ⟨a4, rfl, rfl, rfl, w4⟩ := open_int Try.underlying3 (hval 4 3 v4 rfl rfl) h4
  clear hA0 hval0
  refine (walk a0 a1 len1 cap1 z1 a2 len2 cap2 R a3 a4 W w0 w1 w2 hl w3 w4).mono fun e W' ⟨he, bel⟩ => ?_
  subst he
  exact ⟨_, rfl, _, _, _, [], _, [], hW', trodAll_mk1 (shut_bool Try.underlying4 _), (trodAll_cons_mk (shut_int Try.underlying22 w0) (trodAll_cons_mk (Below.trod laidOut (by kernel_rfl) (of_decide_eq_true (by kernel_rfl)) k1 bel lt1) (trodAll_cons_mk (Below.trod laidOut (by kernel_rfl) (of_decide_eq_true (by kernel_rfl)) k2 bel lt2) (trodAll_cons_mk (shut_int Try.underlying3 w3) (trodAll_cons_mk (shut_int Try.underlying3 w4) trodAll_mk0))))), rfl, bel.frame _, fun h => by cases h⟩

theorem over : Rows.fnRcodeMatchesBitModelRow.holds Try.pinned (OpenSpec.ofChange Rows.fnRcodeMatchesBitModelSpec) :=
  OpenClaim.holds_of_wide 6 Try.f6 rfl rfl rfl rfl rfl rfl rfl ⟨rfl, rfl, rfl, rfl, rfl⟩ rfl rfl rfl rfl rfl (by kernel_rfl) Try.func6 (by kernel_rfl)
    (of_decide_eq_true (by kernel_rfl)) (by unfold Func.isWrapper; first | (rw [if_pos (by decide +kernel)]; kernel_rfl) | (rw [if_neg (by decide +kernel)]; exact ⟨rfl, rfl⟩))
    (fun os started H enc _ => lifted os started H enc)

/-- ████ THE STATEMENT ████ -/
theorem proved : Rows.FnRcodeMatchesBitModelSaid := over
#print axioms proved
end Go.Proofs.Qxb6601654a.fnRcodeMatchesBitModel
