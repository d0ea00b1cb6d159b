/-
  THE WALKS OF (*Message).Rcode (19), zzRcodeModel (20) AND OF THE LAW FnRcodeMatchesBitModel (6). The plain law lies in Qxb6601654aRcPlain.
-/
import Derived.Test.Qxb6601654aRecs
import Derived.Test.Qxb6601654aRcPlain
namespace Go.Proofs.Qxb6601654a
open Go.ChangeShapes Go.WideShapes Go.ChangeAt Go.RowKit

theorem Try.size50 (w : World) : (sizeOf 50).run Try.prog w = .ok 6 w := by kernel_rfl

/-- 'm.Records[p:]'. -/
theorem recs_slice (ro : Option Addr) (n rc p : Nat) (hp : p ≤ n) (w : World) : (Instr.slice 49 (.slice ro n rc) (some (.int .i64 p)) none none).run Try.prog w = .ok (.slice (if rc = p then ro else ro.map (·.add (p * 6))) (n - p) (rc - p)) w := by
  have h := run_slice_l (P := Try.prog) w 49 ro n rc (by kernel_rfl) .i64 p (by omega) (by omega)
  rw [h]
  have e : Try.prog.elem 49 = 50 := by kernel_rfl
  rw [e, Try.size50]
  simp [Result.andThen, sliced]

set_option maxRecDepth 100000 in
set_option maxHeartbeats 1000000 in
/-- '(*Message).Rcode'. -/
theorem rcode_any (m n rc p fl : Nat) (ro : Option Addr) (an ns : Int) (R : Nat → R6) (w : World) (hfl : fl < 65536)
    (m0 : w.cell? ⟨m, 0, none⟩ = some (.int .u16 fl)) (m2 : w.cell? ⟨m, 2, none⟩ = some (.slice ro n rc)) (m3 : w.cell? ⟨m, 3, none⟩ = some (.int .i64 an)) (m4 : w.cell? ⟨m, 4, none⟩ = some (.int .i64 ns))
    (HR : Rs w ro n rc R) (han : 0 ≤ an) (hns : 0 ≤ ns) (hp : an + ns = p) (hpn : p ≤ n) (hn : n ≤ 32768) (hl : ∀ i, 0 ≤ (R i).l ∧ (R i).l ≤ 4294967295) :
    Calls Try.prog 19 #[.pointer (some ⟨m, 0, none⟩)] w fun e w' => e = .returned (.int .i64 (Rp.acc fl R p (n - p) : Nat)) ∧ Below w.heap.size w w' := by
  have h15 := Rp.and15 fl hfl
  have hsl := recs_slice ro n rc p hpn
  obtain ⟨so, hso⟩ : ∃ so, so = (if rc = p then ro else ro.map (·.add (p * 6))) := ⟨_, rfl⟩
  rw [← hso] at hsl
  have HS : Hid (p < n → ∃ g, so = some ⟨g, p * 6, none⟩ ∧ g < w.heap.size ∧ ∀ i, i < n - p → RecAt w g (p * 6 + i * 6) (R (p + i))) := by
    intro hlt
    obtain ⟨g, rfl, rfl, hg, hcc⟩ := HR (by omega)
    refine ⟨g, ?_, hg, fun i hi => ?_⟩
    · rw [hso, if_neg (by omega)]
      simp only [Option.map_some, Option.some.injEq]
      rw [Addr.add_lit, Nat.zero_add]
    · rw [show p * 6 + i * 6 = (p + i) * 6 by omega]
      exact hcc (p + i) (by omega)
  rw [← hp] at hsl
  have HL : Hid (∀ i, 0 ≤ (R i).l ∧ (R i).l ≤ 4294967295) := hl
  have HP : Hid (an + ns = p) := hp
  have hsum : an + ns ≤ 32768 := by omega
  clear hso HR hl hp
  obtain ⟨f4, hf4⟩ : ∃ f4 : Nat, f4 = fl % 2 ^ 4 := ⟨_, rfl⟩
  rw [← hf4] at h15
  have HF4 : Hid (f4 = fl % 2 ^ 4) := hf4
  have hf16 : f4 < 16 := by omega
  clear hf4
  go_enter Try.func19, Try.ntmps19
  go_wp2_with fail
  go_quiet (fail)
  go_wp2_with fail
  obtain ⟨q, hq⟩ : ∃ q, q = n - p := ⟨_, rfl⟩
  have HQ : Hid (q = n - p) := hq
  have hqn : q ≤ 32768 := by omega
  rw [← hq]
  clear hsl hq
  go_loopg [3, 27] q (fun g r i wr => ∃ k a : Nat, k + g = q ∧ i = .int .i64 k ∧ r = .int .i64 a ∧ a < 4096 ∧ Hid (a = Rp.acc fl R p k) ∧ Below w.heap.size w wr)
  case atStart => exact ⟨0, f4, by omega, rfl, rfl, by omega, HF4.out, below_drewN (Below.refl _ _) _⟩
  case round =>
    obtain ⟨k, a, hkg, rfl, rfl, ha, HA, hbel⟩ := hrel
    by_cases hk : k < q
    · obtain ⟨g, rfl, hg, hcc⟩ := HS.out (by have := HQ.out; omega)
      obtain ⟨c0, c1, c2, c3, c4, c5⟩ := (hcc k (by have := HQ.out; omega)).later hbel hg
      have hll := HL.out (p + k)
      have HE : Hid (Rp.acc fl R p (k + 1) = if (R (p + k)).t = 41 then Rp.acc fl R p k ||| Rp.ext (R (p + k)) else Rp.acc fl R p k) := rfl
      have hel : Rp.ext (R (p + k)) < 2 ^ 12 := Rp.ext_lt _ hll.2
      have HX : Hid ((Rp.ext (R (p + k)) : Int) = (R (p + k)).l / 16777216 * 16) := by
        show _ = _
        unfold Rp.ext
        omega
      generalize Rp.ext (R (p + k)) = ex at *
      generalize (R (p + k)).t = r0 at *
      generalize (R (p + k)).c = r1 at *
      generalize (R (p + k)).l = r2 at *
      generalize (R (p + k)).s = r3 at *
      generalize (R (p + k)).d = r4 at *
      generalize (R (p + k)).e = r5 at *
      clear hcc
      by_cases ht : r0 = 41
      · have htb : (r0 == 41) = true := by simp [ht]
        have HT : Hid (r0 = 41) := ht
        clear ht
        go_wp2
        go_roundg (gk - 1)
        case measure => go_light; omega
        case rel =>
          go_light
          refine ⟨k + 1, a ||| ex, by omega, by go_num, ?_, Nat.or_lt_two_pow (n := 12) (by omega) hel, ?_, hbel.alloc hbel.size _⟩
          · rw [← HX.out, Rp.or_i64 a ex ha (by omega)]
          · show _ = _
            rw [HE.out, if_pos HT.out, HA.out]
      · have htb : (r0 == 41) = false := by simp [ht]
        go_wp2
        go_roundg (gk - 1)
        case measure => go_light; omega
        case rel =>
          go_light
          refine ⟨k + 1, a, by omega, by go_num, rfl, ha, ?_, hbel.alloc hbel.size _⟩
          show _ = _
          rw [HE.out, if_neg ht]; exact HA.out
    · go_wp2
      go_ret
      exact ⟨ret_u8 (by rw [HA.out, show k = q by omega, HQ.out]), hbel⟩

/-- '1 << b' as an int. -/
theorem wrap_pow (k : Nat) (hk : k ≤ 62) : wrap64 (2 ^ k) = ((2 ^ k : Nat) : Int) := by
  have h : 2 ^ k ≤ 2 ^ 62 := Nat.pow_le_pow_right (by omega) hk
  have e : (2 : Int) ^ k = ((2 ^ k : Nat) : Int) := by simp
  rw [e]
  generalize 2 ^ k = m at h
  unfold wrap64
  omega

set_option maxRecDepth 100000 in
set_option maxHeartbeats 1000000 in
/-- 'zzRcodeModel'. -/
theorem rmodel_any (n c p fl : Nat) (ao : Option Addr) (fr : Int) (R : Nat → R6) (w : World) (hfl : fl < 65536)
    (HR : Rs w ao n c R) (hp : Hid (fr = p)) (hpn : p ≤ n) (hn : n ≤ 32768) (hl : ∀ i, 0 ≤ (R i).l ∧ (R i).l ≤ 4294967295) :
    Calls Try.prog 20 #[.int .u16 fl, .slice ao n c, .int .i64 fr] w fun e w' => e = .returned (.int .i64 (Rp.sumTo (Rp.setB fl R p (n - p)) 12 : Nat)) ∧ w' = w := by
  have HL : Hid (∀ i, 0 ≤ (R i).l ∧ (R i).l ≤ 4294967295) := hl
  have HRR : Hid (Rs w ao n c R) := HR
  have hfr : 0 ≤ fr ∧ fr ≤ 32768 := by rw [hp.out]; omega
  clear hl HR
  go_enter Try.func20, Try.ntmps20
  go_wp2_with fail
  go_loopg [7, 8] 12 (fun g wv bv wr => wr = w ∧ ∃ b s : Nat, b + g = 12 ∧ bv = .int .i64 b ∧ wv = .int .i64 s ∧ s < 4096 ∧ Hid (s = Rp.sumTo (Rp.setB fl R p (n - p)) b))
  case atStart => exact ⟨rfl, 0, 0, rfl, rfl, rfl, by omega, rfl⟩
  case round =>
    obtain ⟨hwr, b, s, hbg, rfl, rfl, hs, HS⟩ := hrel
    obtain rfl : w = wr := hwr.symm
    by_cases hb : b < 12
    · go_upto_if 16 with fail
      go_cut [9] (fun sv wr => wr = w ∧ sv = .bool (Rp.setB fl R p (n - p) b))
      case first =>
        by_cases hb4 : b < 4
        · have hbit := Rp.bit_u16 fl b hfl
          have HB : Hid (Rp.setB fl R p (n - p) b = fl.testBit b) := by show _ = _; unfold Rp.setB; rw [if_pos hb4]
          generalize fl.testBit b = B at *
          go_wp2_with fail
          go_meet
          case rel => exact ⟨rfl, by rw [HB.out]⟩
        · have HB : Hid (Rp.setB fl R p (n - p) b = Rp.hit R p b (n - p)) := by show _ = _; unfold Rp.setB; rw [if_neg hb4]
          go_wp2_with fail
          go_loopg [9, 10] (n - p) (fun g sv jv wr => wr = w ∧ ∃ k : Nat, k + g = n - p ∧ jv = .int .i64 ((p + k : Nat) : Int) ∧ sv = .bool (Rp.hit R p b k))
          case atStart => exact ⟨rfl, 0, by omega, by rw [hp.out]; rfl, rfl⟩
          case round =>
            obtain ⟨hwr2, k, hkg, rfl, rfl⟩ := hrel
            obtain rfl : w = wr := hwr2.symm
            by_cases hk : p + k < n
            · obtain ⟨g, rfl, rfl, hg, hcc⟩ := HRR.out (by omega)
              obtain ⟨c0, c1, c2, c3, c4, c5⟩ := hcc (p + k) hk
              have hll := HL.out (p + k)
              have HE : Hid (Rp.hit R p b (k + 1) = (Rp.hit R p b k || (decide ((R (p + k)).t = 41) && (R (p + k)).l.toNat.testBit (20 + b)))) := rfl
              obtain ⟨ln, hln⟩ : ∃ ln : Nat, (R (p + k)).l = ln := ⟨(R (p + k)).l.toNat, by omega⟩
              rw [hln] at c2 hll
              rw [hln, Int.toNat_natCast] at HE
              have hbit := Rp.bit_u32 ln (20 + b) (by omega)
              clear c1 c3 c4 c5 hcc hln
              generalize (R (p + k)).t = r0 at *
              generalize ln.testBit (20 + b) = B at *
              generalize Rp.hit R p b k = hk0 at *
              by_cases ht : r0 = 41
              · have htb : (r0 == 41) = true := by simp [ht]
                have HT : Hid (r0 = 41) := ht
                clear ht
                cases B with
                | true =>
                  go_wp2_with fail
                  go_roundg (gk - 1)
                  case measure => go_light; omega
                  case rel =>
                    go_light
                    refine ⟨rfl, k + 1, by omega, by go_num, ?_⟩
                    rw [HE.out, HT.out]; simp
                | false =>
                  go_wp2_with fail
                  go_roundg (gk - 1)
                  case measure => go_light; omega
                  case rel =>
                    go_light
                    refine ⟨rfl, k + 1, by omega, by go_num, ?_⟩
                    rw [HE.out]; simp
              · have htb : (r0 == 41) = false := by simp [ht]
                go_wp2_with fail
                go_roundg (gk - 1)
                case measure => go_light; omega
                case rel =>
                  go_light
                  refine ⟨rfl, k + 1, by omega, by go_num, ?_⟩
                  rw [HE.out]; simp [ht]
            · go_wp2_with fail
              go_meet
              case rel =>
                go_light
                exact ⟨rfl, by rw [HB.out, show n - p = k by omega]⟩
      case rest =>
        obtain ⟨hwc, rfl⟩ := hcut
        obtain rfl : w = wc := hwc.symm
        have HE : Hid (Rp.sumTo (Rp.setB fl R p (n - p)) (b + 1) = Rp.sumTo (Rp.setB fl R p (n - p)) b + if Rp.setB fl R p (n - p) b = true then 2 ^ b else 0) := rfl
        have hlt := Rp.sumTo_lt (Rp.setB fl R p (n - p)) (b + 1)
        have h12 : 2 ^ (b + 1) ≤ 2 ^ 12 := Nat.pow_le_pow_right (by omega) (by omega)
        have HT : Hid (Rp.sumTo (Rp.setB fl R p (n - p)) (b + 1) < 4096) := by show _ < _; omega
        clear hlt h12
        generalize Rp.setB fl R p (n - p) b = B at *
        have hw : wrap64 (2 ^ b) = ((2 ^ b : Nat) : Int) := wrap_pow b (by omega)
        have hpl : 2 ^ b ≤ 2 ^ 12 := Nat.pow_le_pow_right (by omega) (by omega)
        obtain ⟨pw, hpw⟩ : ∃ pw : Nat, pw = 2 ^ b := ⟨_, rfl⟩
        rw [← hpw] at hw hpl HE
        clear hpw
        cases B with
        | true =>
          go_wp2_with fail
          go_roundg (gk - 1)
          case measure => go_light; omega
          case rel =>
            go_light
            have e : s + pw = Rp.sumTo (Rp.setB fl R p (n - p)) (b + 1) := by rw [HE.out, if_pos (by simp), HS.out]
            exact ⟨rfl, b + 1, s + pw, by omega, by go_num, by go_num, by rw [e]; exact HT.out, e⟩
        | false =>
          go_wp2_with fail
          go_roundg (gk - 1)
          case measure => go_light; omega
          case rel =>
            go_light
            have e : s = Rp.sumTo (Rp.setB fl R p (n - p)) (b + 1) := by rw [HE.out, if_neg (by simp), HS.out, Nat.add_zero]
            exact ⟨rfl, b + 1, s, by omega, by go_num, rfl, hs, e⟩
    · go_wp2_with fail
      go_ret
      exact ⟨ret_u8 (by rw [HS.out, show b = 12 by omega]), rfl⟩

set_option maxRecDepth 100000 in
set_option maxHeartbeats 1000000 in
/-- THE LAW 'FnRcodeMatchesBitModel' (6), at inputs that the function looks at. -/
theorem bit_walk (fl : Nat) (q a : Option Addr) (qn qc n c : Nat) (z : List Int) (R : Nat → R6) (an ns : Int) (w : World) (hfl : fl < 65536) (hq : IsRow .u8 w q qn qc z) (ha : IsRecs w a n c R)
    (hl : ∀ i, 0 ≤ (R i).l ∧ (R i).l ≤ 4294967295) (hsz : qn + 32 * n ≤ 1048576) (h1 : 0 ≤ an) (h2 : 0 ≤ ns) (h3 : an ≤ n) (h4 : ns ≤ n - an) :
    Calls Try.prog 6 #[.int .u16 fl, .slice q qn qc, .slice a n c, .int .i64 an, .int .i64 ns] w fun e w' => e = .returned (.bool true) ∧ Below w.heap.size w w' := by
  have g1 : decide ((1048576 : Int) < (qn : Int)) = false := by simp; omega
  have g2 : decide (an < 0) = false := by simp; omega
  have g3 : decide (ns < 0) = false := by simp; omega
  have g4 : decide ((n : Int) < an) = false := by simp; omega
  obtain ⟨p, hp⟩ : ∃ p : Nat, an + ns = p := ⟨(an + ns).toNat, by omega⟩
  have hpn : p ≤ n := by omega
  have HP : Hid (an + ns = p) := hp
  have HQ : Hid (IsRow .u8 w q qn qc z) := hq
  have HA : Hid (IsRecs w a n c R) := ha
  have HL : Hid (∀ i, 0 ≤ (R i).l ∧ (R i).l ≤ 4294967295) := hl
  clear hp hq ha hl
  go_enter Try.func6, Try.ntmps6
  go_upto_region 9 with go_in
  go_wp2_with fail
  refine (copy_any q qn qc z _ HQ.out (by omega)).mono ?_
  rintro e w1 ⟨qo, qc', rfl, bq, hb1⟩
  clear bq
  go_wp2_with fail
  refine (copyr_any a n c R _ (HA.out.later hb1) (by omega)).mono ?_
  rintro e w2 ⟨ao, c', rfl, br, hnil, hb2⟩
  have hb12 := hb1.trans (hb2.mono hb1.size)
  have HBR : Hid (Rs w2 ao n c' R) := br
  have HNIL : Hid (ao = none → n = 0 ∧ c' = 0) := hnil
  clear br hnil hb1 hb2 HQ HA
  go_wp2_with fail
  refine (message_any fl an ns qo qn qc' ao n c' R _ HBR.out HNIL.out (by omega)).mono ?_
  rintro e w3 ⟨m, ro, rc, rfl, hm, m0, m2, m3, m4, hr, hb3⟩
  have hb13 := hb12.trans (hb3.mono hb12.size)
  have HM : Hid (m < w3.heap.size ∧ w3.cell? ⟨m, 0, none⟩ = some (.int .u16 fl) ∧ w3.cell? ⟨m, 2, none⟩ = some (.slice ro n rc) ∧ w3.cell? ⟨m, 3, none⟩ = some (.int .i64 an) ∧ w3.cell? ⟨m, 4, none⟩ = some (.int .i64 ns)) := ⟨hm, m0, m2, m3, m4⟩
  have HRS : Hid (Rs w3 ro n rc R) := hr
  clear hm m0 m2 m3 m4 hr
  go_wp2_with fail
  refine (rcode_any m n rc p fl ro an ns R _ hfl HM.out.2.1 HM.out.2.2.1 HM.out.2.2.2.1 HM.out.2.2.2.2 HRS.out h1 h2 HP.out hpn (by omega) HL.out).mono ?_
  rintro e w4 ⟨rfl, hb4⟩
  have hb14 := hb13.trans (hb4.mono hb13.size)
  have HBR4 : Hid (Rs w4 ao n c' R) := (HBR.out.later hb3).later hb4
  clear hb3 hb4
  go_wp2_with fail
  refine (rmodel_any n c' p fl ao (an + ns) R _ hfl HBR4.out HP hpn (by omega) HL.out).mono ?_
  rintro e w5 ⟨rfl, hw5⟩
  obtain rfl : w4 = w5 := hw5.symm
  rw [Rp.law fl R p (n - p) (fun i => (HL.out i).2)]
  go_wp2_with fail
  go_ret
  exact ⟨by simp, hb14⟩

set_option maxRecDepth 100000 in
set_option maxHeartbeats 1000000 in
/-- The early returns on lengths. -/
theorem bit_long (fl an ns : Int) (q a : Option Addr) (qn qc n c : Nat) (w : World) (hq : qn ≤ maxLen) (hn : n ≤ maxLen) (hsz : ¬ qn + 32 * n ≤ 1048576) :
    Calls Try.prog 6 #[.int .u16 fl, .slice q qn qc, .slice a n c, .int .i64 an, .int .i64 ns] w fun e w' => e = .returned (.bool true) ∧ Below w.heap.size w w' := by
  unfold maxLen at hq hn
  by_cases k1 : qn ≤ 1048576
  · by_cases k2 : n ≤ 1048576
    · by_cases k3 : qn + n ≤ 1048576
      · by_cases k4 : n ≤ 32768
        · go_enter Try.func6, Try.ntmps6
          go_wp2
          go_ret
          exact ⟨rfl, Below.refl _ _⟩
        · go_enter Try.func6, Try.ntmps6
          go_wp2
          go_ret
          exact ⟨rfl, Below.refl _ _⟩
      · go_enter Try.func6, Try.ntmps6
        go_wp2
        go_ret
        exact ⟨rfl, Below.refl _ _⟩
    · go_enter Try.func6, Try.ntmps6
      go_wp2
      go_ret
      exact ⟨rfl, Below.refl _ _⟩
  · go_enter Try.func6, Try.ntmps6
    go_wp2
    go_ret
    exact ⟨rfl, Below.refl _ _⟩

set_option maxRecDepth 100000 in
set_option maxHeartbeats 1000000 in
/-- The early returns on the section counts. -/
theorem bit_counts (fl an ns : Int) (q a : Option Addr) (qn qc n c : Nat) (w : World) (hsz : qn + 32 * n ≤ 1048576) (han : -9223372036854775808 ≤ an ∧ an ≤ 9223372036854775807) (hns : -9223372036854775808 ≤ ns ∧ ns ≤ 9223372036854775807)
    (h : ¬ (0 ≤ an ∧ 0 ≤ ns ∧ an ≤ n ∧ ns ≤ n - an)) :
    Calls Try.prog 6 #[.int .u16 fl, .slice q qn qc, .slice a n c, .int .i64 an, .int .i64 ns] w fun e w' => e = .returned (.bool true) ∧ Below w.heap.size w w' := by
  have g1 : decide ((1048576 : Int) < (qn : Int)) = false := by simp; omega
  by_cases k1 : an < 0
  · have b1 : decide (an < 0) = true := by simpa using k1
    go_enter Try.func6, Try.ntmps6
    go_wp2
    go_ret
    exact ⟨rfl, Below.refl _ _⟩
  · have b1 : decide (an < 0) = false := by simpa using k1
    by_cases k2 : ns < 0
    · have b2 : decide (ns < 0) = true := by simpa using k2
      go_enter Try.func6, Try.ntmps6
      go_wp2
      go_ret
      exact ⟨rfl, Below.refl _ _⟩
    · have b2 : decide (ns < 0) = false := by simpa using k2
      by_cases k3 : (n : Int) < an
      · have b3 : decide ((n : Int) < an) = true := by simpa using k3
        go_enter Try.func6, Try.ntmps6
        go_wp2
        go_ret
        exact ⟨rfl, Below.refl _ _⟩
      · have b3 : decide ((n : Int) < an) = false := by simpa using k3
        have k4 : (n : Int) - an < ns := by omega
        clear h
        go_enter Try.func6, Try.ntmps6
        go_wp2
        go_ret
        exact ⟨rfl, Below.refl _ _⟩

theorem bit_any (fl an ns : Int) (q a : Option Addr) (qn qc n c : Nat) (z : List Int) (R : Nat → R6) (w : World) (hfl : (Lit.int .u16 fl).wf = true) (hq : IsRow .u8 w q qn qc z) (ha : IsRecs w a n c R)
    (hl : ∀ i, 0 ≤ (R i).l ∧ (R i).l ≤ 4294967295) (han : (Lit.int .i64 an).wf = true) (hns : (Lit.int .i64 ns).wf = true) :
    Calls Try.prog 6 #[.int .u16 fl, .slice q qn qc, .slice a n c, .int .i64 an, .int .i64 ns] w fun e w' => e = .returned (.bool true) ∧ Below w.heap.size w w' := by
  have bf := bounds_u16 hfl
  have ba := bounds_i64 han
  have bn := bounds_i64 hns
  by_cases hsz : qn + 32 * n ≤ 1048576
  · by_cases h : 0 ≤ an ∧ 0 ≤ ns ∧ an ≤ n ∧ ns ≤ n - an
    · obtain ⟨fn, rfl⟩ := Int.eq_ofNat_of_zero_le bf.1
      exact bit_walk fn q a qn qc n c z R an ns w (by omega) hq ha hl hsz h.1 h.2.1 h.2.2.1 h.2.2.2
    · exact bit_counts fl an ns q a qn qc n c w hsz ba bn h
  · exact bit_long fl an ns q a qn qc n c w hq.len_le ha.len_le hsz
end Go.Proofs.Qxb6601654a
