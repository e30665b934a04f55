/- The walk of FnLearnsAtHoldingBothWaysIsEitherWay (3). -/
import Derived.Test.Qxb6612745aBy11
import Derived.Test.Qxb6612745aLaw
import Derived.Test.Qxb6612745aLit
import Derived.Test.Qxb6612745aTrees
import Derived.Deep.CutRange
namespace Go.Proofs.Qxb6612745a
open Go.RowKit

set_option maxRecDepth 100000 in
set_option maxHeartbeats 8000000 in
theorem walk3 (p : ByteArray) (a1 a2 a3 a4 : Option Addr) (c1 c2 c3 c4 : Nat) (l1 l2 l3 l4 : List (ByteArray × Int)) (w : World)
    (hl1 : l1.length ≤ 9223372036854775807) (hl2 : l2.length ≤ 9223372036854775807) (hl3 : l3.length ≤ 9223372036854775807) (hl4 : l4.length ≤ 9223372036854775807) (hr1 : Row w a1 l1) (hr2 : Row w a2 l2) (hr3 : Row w a3 l3) (hr4 : Row w a4 l4) (hp1 : Pos l1) (hp2 : Pos l2) (hp3 : Pos l3) (hp4 : Pos l4) :
    Calls Try.prog 3 #[.string p, .slice a1 l1.length c1, .slice a2 l2.length c2, .slice a3 l3.length c3, .slice a4 l4.length c4] w fun e w' => e = .returned (.bool true) ∧ Below w.heap.size w w' := by
  have R1 : Hid (Row w a1 l1) := hr1
  have P1 : Hid (Pos l1) := hp1
  have R2 : Hid (Row w a2 l2) := hr2
  have P2 : Hid (Pos l2) := hp2
  have R3 : Hid (Row w a3 l3) := hr3
  have P3 : Hid (Pos l3) := hp3
  have R4 : Hid (Row w a4 l4) := hr4
  have P4 : Hid (Pos l4) := hp4
  clear hr1 hp1 hr2 hp2 hr3 hp3 hr4 hp4
  go_enter Try.func3, Try.ntmps3
  go_wp2_with fail
  refine (bytes11 p a1 c1 l1 a2 c2 l2 a3 c3 l3 a4 c4 l4 _ hl1 R1.out hl2 R2.out hl3 R3.out hl4 R4.out).mono ?_
  rintro e w' ⟨⟨b, rfl⟩, hw⟩
  rw [hw]
  clear hw w'
  cases b with
  | false =>
    go_wp2_with fail
    go_ret
    exact ⟨rfl, Below.refl _ _⟩
  | true =>
    go_wp2_with fail
    all_goals (try (go_ret; exact ⟨rfl, Below.refl _ _⟩))
    have npp : (p.size : Int) ≤ 1048576 := by omega
    have M1 : l1.length ≤ 4096 := by omega
    have M2 : l2.length ≤ 4096 := by omega
    have M3 : l3.length ≤ 4096 := by omega
    have M4 : l4.length ≤ 4096 := by omega
    refine (addElems _ _ _ _ _ hl1 R1.out).mono ?_
    rintro e w' ⟨⟨n1, rfl⟩, hw⟩
    rw [hw]
    clear hw w'
    go_wp2_with fail
    refine (addElems _ _ _ _ _ hl2 R2.out).mono ?_
    rintro e w' ⟨⟨n2, rfl⟩, hw⟩
    rw [hw]
    clear hw w'
    go_wp2_with fail
    refine (addElems _ _ _ _ _ hl3 R3.out).mono ?_
    rintro e w' ⟨⟨n3, rfl⟩, hw⟩
    rw [hw]
    clear hw w'
    go_wp2_with fail
    refine (addElems _ _ _ _ _ hl4 R4.out).mono ?_
    rintro e w' ⟨⟨n4, rfl⟩, hw⟩
    rw [hw]
    clear hw w'
    by_cases hnn : 1048576 < n4
    · go_wp2_with fail
      go_ret
      exact ⟨rfl, Below.refl _ _⟩
    have hnn' : decide (1048576 < n4) = false := by simpa using hnn
    have HB : Below w.heap.size w w := Below.refl _ _
    go_wp2_with fail
    refine (sorted13 _ _ _ _ hl1 (R1.out.below HB)).mono ?_
    rintro e z1 ⟨⟨b, rfl, hq⟩, hz⟩
    have HB := HB.trans (hz.mono HB.size)
    clear hz
    cases b with
    | false =>
      clear hq
      go_wp2_with fail
      go_ret
      exact ⟨rfl, HB⟩
    | true =>
    have S1 : Hid (Srt l1) := hq.1 rfl
    clear hq
    go_wp2_with fail
    refine (sorted13 _ _ _ _ hl2 (R2.out.below HB)).mono ?_
    rintro e z2 ⟨⟨b, rfl, hq⟩, hz⟩
    have HB := HB.trans (hz.mono HB.size)
    clear hz
    cases b with
    | false =>
      clear hq
      go_wp2_with fail
      go_ret
      exact ⟨rfl, HB⟩
    | true =>
    have S2 : Hid (Srt l2) := hq.1 rfl
    clear hq
    go_wp2_with fail
    refine (sorted13 _ _ _ _ hl3 (R3.out.below HB)).mono ?_
    rintro e z3 ⟨⟨b, rfl, hq⟩, hz⟩
    have HB := HB.trans (hz.mono HB.size)
    clear hz
    cases b with
    | false =>
      clear hq
      go_wp2_with fail
      go_ret
      exact ⟨rfl, HB⟩
    | true =>
    have S3 : Hid (Srt l3) := hq.1 rfl
    clear hq
    go_wp2_with fail
    refine (sorted13 _ _ _ _ hl4 (R4.out.below HB)).mono ?_
    rintro e z4 ⟨⟨b, rfl, hq⟩, hz⟩
    have HB := HB.trans (hz.mono HB.size)
    clear hz
    cases b with
    | false =>
      clear hq
      go_wp2_with fail
      go_ret
      exact ⟨rfl, HB⟩
    | true =>
    have S4 : Hid (Srt l4) := hq.1 rfl
    clear hq
    go_upto_region 13 with fail
    have N1 : l1.length ≤ 1000000 := by omega
    have K1 : l1.length ≤ 500000 := by omega
    have N2 : l2.length ≤ 1000000 := by omega
    have K2 : l2.length ≤ 500000 := by omega
    have N3 : l3.length ≤ 1000000 := by omega
    have K3 : l3.length ≤ 500000 := by omega
    have N4 : l4.length ≤ 1000000 := by omega
    have K4 : l4.length ≤ 500000 := by omega
    clear hnn hnn' hl1 hl2 hl3 hl4 M1 M2 M3 M4 npp
    go_cut [12] from 18 to 88 (fun vv wz => T2 (fun s ds => ent 1 Sl.nil Sl.nil s Sl.nil ds Sl.nil) z4 p l1 l2 vv wz)
    case first =>
     as_aux_lemma =>
      go_wp2_with ((with_reducible refine stopTree ?_ ?_); · exact rfl)
      refine Stop.go (wpList_makeTree (by rfl) (by rfl) ?_)
      intro m x0 lo1 hi1 hm0 hbx
      have HBx := HB.trans (hbx.mono HB.size)
      go_wp2_with fail
      refine (time14s _ _ _ _ N1 (R1.out.below HBx)).mono ?_
      rintro e x1 ⟨⟨s0, rfl, hs0⟩, hb⟩
      have hm1 := hm0.below hb
      have HBx := HBx.trans (hb.mono HBx.size)
      have hbx := hbx.trans (hb.mono hbx.size)
      clear hb
      go_wp2_with fail
      refine (time14s _ _ _ _ N2 (R2.out.below HBx)).mono ?_
      rintro e x2 ⟨⟨s1, rfl, hs1⟩, hb⟩
      have hm2 := hm1.below hb
      have hs0 := hs0.below hb
      have HBx := HBx.trans (hb.mono HBx.size)
      have hbx := hbx.trans (hb.mono hbx.size)
      clear hb
      go_wp2_with ((with_reducible refine stopTree ?_ ?_); · exact rfl)
      refine Stop.go (wpList_insert _ _ _ (by rfl) (by rfl) m p (.agg (ent 1 Sl.nil Sl.nil s0 Sl.nil s1 Sl.nil)) _ (by rfl) (by rfl) (by rfl) hm2 rfl ?_)
      intro xz hmz htz
      have hs0 := hs0.mapped hm2 htz
      have hs1 := hs1.mapped hm2 htz
      have hbx := hbx.trans (htz.below lo1)
      go_wp2_with fail
      go_meet
      case rel => exact ⟨m, s0, s1, rfl, hmz, hs0, hs1, hbx⟩
    case rest =>
    obtain ⟨ma, s1, s2, rfl, hMa, hs1, hs2, hbc⟩ := hcut
    have HB := HB.trans (hbc.mono HB.size)
    clear hbc
    go_upto_region 14 with fail
    go_cut [13] from 18 to 96 (fun vv wz => T2 (fun s ds => ent 1 Sl.nil Sl.nil s Sl.nil ds Sl.nil) wc p l3 l4 vv wz)
    case first =>
     as_aux_lemma =>
      go_wp2_with ((with_reducible refine stopTree ?_ ?_); · exact rfl)
      refine Stop.go (wpList_makeTree (by rfl) (by rfl) ?_)
      intro m x0 lo1 hi1 hm0 hbx
      have HBx := HB.trans (hbx.mono HB.size)
      go_wp2_with fail
      refine (time14s _ _ _ _ N3 (R3.out.below HBx)).mono ?_
      rintro e x1 ⟨⟨s0, rfl, hs0⟩, hb⟩
      have hm1 := hm0.below hb
      have HBx := HBx.trans (hb.mono HBx.size)
      have hbx := hbx.trans (hb.mono hbx.size)
      clear hb
      go_wp2_with fail
      refine (time14s _ _ _ _ N4 (R4.out.below HBx)).mono ?_
      rintro e x2 ⟨⟨s1, rfl, hs1⟩, hb⟩
      have hm2 := hm1.below hb
      have hs0 := hs0.below hb
      have HBx := HBx.trans (hb.mono HBx.size)
      have hbx := hbx.trans (hb.mono hbx.size)
      clear hb
      go_wp2_with ((with_reducible refine stopTree ?_ ?_); · exact rfl)
      refine Stop.go (wpList_insert _ _ _ (by rfl) (by rfl) m p (.agg (ent 1 Sl.nil Sl.nil s0 Sl.nil s1 Sl.nil)) _ (by rfl) (by rfl) (by rfl) hm2 rfl ?_)
      intro xz hmz htz
      have hs0 := hs0.mapped hm2 htz
      have hs1 := hs1.mapped hm2 htz
      have hbx := hbx.trans (htz.below lo1)
      go_wp2_with fail
      go_meet
      case rel => exact ⟨m, s0, s1, rfl, hmz, hs0, hs1, hbx⟩
    case rest =>
    obtain ⟨mb, s3, s4, rfl, hMb, hs3, hs4, hbc⟩ := hcut
    have hMa := hMa.below hbc
    have hs1 := hs1.below hbc
    have hs2 := hs2.below hbc
    have HB := HB.trans (hbc.mono HB.size)
    clear hbc
    have A1 : AtE wc ma p _ := AtE.hit (One.ent ..) hMa (if_pos rfl)
    have A2 : AtE wc mb p _ := AtE.hit (One.ent ..) hMb (if_pos rfl)
    have E1 := KE.file hs1 hs2 K1 K2 S1.out S2.out P1.out P2.out
    have E2 := KE.file hs3 hs4 K3 K4 S3.out S4.out P3.out P4.out
    have HBc : Below wc.heap.size wc wc := Below.refl _ _
    have Z1 : Hid (KnowsAll l3 l4 l1 l2 ↔ zKnows l3 l4 l1 l2) := knows_zknows S1.out S2.out P3.out P4.out P2.out
    have Z2 : Hid (KnowsAll l1 l2 l3 l4 ↔ zKnows l1 l2 l3 l4) := knows_zknows S3.out S4.out P1.out P2.out P4.out
    clear hMa hMb hs1 hs2 hs3 hs4 K1 K2 K3 K4
    by_cases ha : KnowsAll l3 l4 l1 l2
    · have HA : Hid (KnowsAll l3 l4 l1 l2) := ha
      clear ha
      by_cases hc : KnowsAll l1 l2 l3 l4
      · have HC : Hid (KnowsAll l1 l2 l3 l4) := hc
        clear hc
        go_wp2_with fail
        refine (learns15 ma mb false p _ _ l1 l2 l3 l4 _ (A1.later HBc) (A2.later HBc) (E1.below HBc) (E2.below HBc)).mono ?_
        rintro e y1 ⟨⟨b, rfl, hq⟩, hy⟩
        obtain rfl : b = false := says_false hq (fun h => h.elim (fun h => h HA.out) (fun h => by cases h.1))
        have HBc := HBc.trans (hy.mono HBc.size)
        clear hq hy
        go_wp2_with fail
        refine (learns15 mb ma false p _ _ l3 l4 l1 l2 _ (A2.later HBc) (A1.later HBc) (E2.below HBc) (E1.below HBc)).mono ?_
        rintro e y2 ⟨⟨b, rfl, hq⟩, hy⟩
        obtain rfl : b = false := says_false hq (fun h => h.elim (fun h => h HC.out) (fun h => by cases h.1))
        have HBc := HBc.trans (hy.mono HBc.size)
        clear hq hy
        go_wp2_with fail
        refine (learns15 ma mb true p _ _ l1 l2 l3 l4 _ (A1.later HBc) (A2.later HBc) (E1.below HBc) (E2.below HBc)).mono ?_
        rintro e y3 ⟨⟨b, rfl, hq⟩, hy⟩
        obtain rfl : b = false := says_false hq (fun h => h.elim (fun h => h HA.out) (fun h => h.2 HC.out))
        have HBc := HBc.trans (hy.mono HBc.size)
        clear hq hy
        go_wp2_with fail
        refine (learns15 mb ma true p _ _ l3 l4 l1 l2 _ (A2.later HBc) (A1.later HBc) (E2.below HBc) (E1.below HBc)).mono ?_
        rintro e y4 ⟨⟨b, rfl, hq⟩, hy⟩
        obtain rfl : b = false := says_false hq (fun h => h.elim (fun h => h HC.out) (fun h => h.2 HA.out))
        have HBc := HBc.trans (hy.mono HBc.size)
        clear hq hy
        have HBw := HB.trans (HBc.mono HB.size)
        go_wp2_with fail
        refine (knows16 _ _ _ _ _ _ _ _ l3 l4 l1 l2 _ (by omega) (by omega) (by omega) (by omega) (R3.out.below HBw) (R4.out.below HBw) (R1.out.below HBw) (R2.out.below HBw)).mono ?_
        rintro e y5 ⟨⟨b, rfl, hq⟩, hy⟩
        obtain rfl : b = true := says_true hq (Z1.out.1 HA.out)
        have HBc := HBc.trans (hy.mono HBc.size)
        have HBw := HB.trans (HBc.mono HB.size)
        clear hq hy
        go_wp2_with fail
        refine (knows16 _ _ _ _ _ _ _ _ l1 l2 l3 l4 _ (by omega) (by omega) (by omega) (by omega) (R1.out.below HBw) (R2.out.below HBw) (R3.out.below HBw) (R4.out.below HBw)).mono ?_
        rintro e y6 ⟨⟨b, rfl, hq⟩, hy⟩
        obtain rfl : b = true := says_true hq (Z2.out.1 HC.out)
        have HBc := HBc.trans (hy.mono HBc.size)
        have HBw := HB.trans (HBc.mono HB.size)
        clear hq hy
        go_wp2_with fail
        go_ret
        exact ⟨rfl, HBw⟩
      · have HC : Hid (¬ KnowsAll l1 l2 l3 l4) := hc
        clear hc
        go_wp2_with fail
        refine (learns15 ma mb false p _ _ l1 l2 l3 l4 _ (A1.later HBc) (A2.later HBc) (E1.below HBc) (E2.below HBc)).mono ?_
        rintro e y1 ⟨⟨b, rfl, hq⟩, hy⟩
        obtain rfl : b = false := says_false hq (fun h => h.elim (fun h => h HA.out) (fun h => by cases h.1))
        have HBc := HBc.trans (hy.mono HBc.size)
        clear hq hy
        go_wp2_with fail
        refine (learns15 mb ma false p _ _ l3 l4 l1 l2 _ (A2.later HBc) (A1.later HBc) (E2.below HBc) (E1.below HBc)).mono ?_
        rintro e y2 ⟨⟨b, rfl, hq⟩, hy⟩
        obtain rfl : b = true := says_true hq (Or.inl HC.out)
        have HBc := HBc.trans (hy.mono HBc.size)
        clear hq hy
        go_wp2_with fail
        refine (learns15 ma mb true p _ _ l1 l2 l3 l4 _ (A1.later HBc) (A2.later HBc) (E1.below HBc) (E2.below HBc)).mono ?_
        rintro e y3 ⟨⟨b, rfl, hq⟩, hy⟩
        obtain rfl : b = true := says_true hq (Or.inr ⟨rfl, HC.out⟩)
        have HBc := HBc.trans (hy.mono HBc.size)
        clear hq hy
        go_wp2_with fail
        refine (learns15 mb ma true p _ _ l3 l4 l1 l2 _ (A2.later HBc) (A1.later HBc) (E2.below HBc) (E1.below HBc)).mono ?_
        rintro e y4 ⟨⟨b, rfl, hq⟩, hy⟩
        obtain rfl : b = true := says_true hq (Or.inl HC.out)
        have HBc := HBc.trans (hy.mono HBc.size)
        clear hq hy
        have HBw := HB.trans (HBc.mono HB.size)
        go_wp2_with fail
        refine (knows16 _ _ _ _ _ _ _ _ l3 l4 l1 l2 _ (by omega) (by omega) (by omega) (by omega) (R3.out.below HBw) (R4.out.below HBw) (R1.out.below HBw) (R2.out.below HBw)).mono ?_
        rintro e y5 ⟨⟨b, rfl, hq⟩, hy⟩
        obtain rfl : b = true := says_true hq (Z1.out.1 HA.out)
        have HBc := HBc.trans (hy.mono HBc.size)
        have HBw := HB.trans (HBc.mono HB.size)
        clear hq hy
        go_wp2_with fail
        refine (knows16 _ _ _ _ _ _ _ _ l1 l2 l3 l4 _ (by omega) (by omega) (by omega) (by omega) (R1.out.below HBw) (R2.out.below HBw) (R3.out.below HBw) (R4.out.below HBw)).mono ?_
        rintro e y6 ⟨⟨b, rfl, hq⟩, hy⟩
        obtain rfl : b = false := says_false hq (fun h => HC.out (Z2.out.2 h))
        have HBc := HBc.trans (hy.mono HBc.size)
        have HBw := HB.trans (HBc.mono HB.size)
        clear hq hy
        go_wp2_with fail
        go_ret
        exact ⟨rfl, HBw⟩
    · have HA : Hid (¬ KnowsAll l3 l4 l1 l2) := ha
      clear ha
      by_cases hc : KnowsAll l1 l2 l3 l4
      · have HC : Hid (KnowsAll l1 l2 l3 l4) := hc
        clear hc
        go_wp2_with fail
        refine (learns15 ma mb false p _ _ l1 l2 l3 l4 _ (A1.later HBc) (A2.later HBc) (E1.below HBc) (E2.below HBc)).mono ?_
        rintro e y1 ⟨⟨b, rfl, hq⟩, hy⟩
        obtain rfl : b = true := says_true hq (Or.inl HA.out)
        have HBc := HBc.trans (hy.mono HBc.size)
        clear hq hy
        go_wp2_with fail
        refine (learns15 mb ma false p _ _ l3 l4 l1 l2 _ (A2.later HBc) (A1.later HBc) (E2.below HBc) (E1.below HBc)).mono ?_
        rintro e y2 ⟨⟨b, rfl, hq⟩, hy⟩
        obtain rfl : b = false := says_false hq (fun h => h.elim (fun h => h HC.out) (fun h => by cases h.1))
        have HBc := HBc.trans (hy.mono HBc.size)
        clear hq hy
        go_wp2_with fail
        refine (learns15 ma mb true p _ _ l1 l2 l3 l4 _ (A1.later HBc) (A2.later HBc) (E1.below HBc) (E2.below HBc)).mono ?_
        rintro e y3 ⟨⟨b, rfl, hq⟩, hy⟩
        obtain rfl : b = true := says_true hq (Or.inl HA.out)
        have HBc := HBc.trans (hy.mono HBc.size)
        clear hq hy
        go_wp2_with fail
        refine (learns15 mb ma true p _ _ l3 l4 l1 l2 _ (A2.later HBc) (A1.later HBc) (E2.below HBc) (E1.below HBc)).mono ?_
        rintro e y4 ⟨⟨b, rfl, hq⟩, hy⟩
        obtain rfl : b = true := says_true hq (Or.inr ⟨rfl, HA.out⟩)
        have HBc := HBc.trans (hy.mono HBc.size)
        clear hq hy
        have HBw := HB.trans (HBc.mono HB.size)
        go_wp2_with fail
        refine (knows16 _ _ _ _ _ _ _ _ l3 l4 l1 l2 _ (by omega) (by omega) (by omega) (by omega) (R3.out.below HBw) (R4.out.below HBw) (R1.out.below HBw) (R2.out.below HBw)).mono ?_
        rintro e y5 ⟨⟨b, rfl, hq⟩, hy⟩
        obtain rfl : b = false := says_false hq (fun h => HA.out (Z1.out.2 h))
        have HBc := HBc.trans (hy.mono HBc.size)
        have HBw := HB.trans (HBc.mono HB.size)
        clear hq hy
        go_wp2_with fail
        refine (knows16 _ _ _ _ _ _ _ _ l1 l2 l3 l4 _ (by omega) (by omega) (by omega) (by omega) (R1.out.below HBw) (R2.out.below HBw) (R3.out.below HBw) (R4.out.below HBw)).mono ?_
        rintro e y6 ⟨⟨b, rfl, hq⟩, hy⟩
        obtain rfl : b = true := says_true hq (Z2.out.1 HC.out)
        have HBc := HBc.trans (hy.mono HBc.size)
        have HBw := HB.trans (HBc.mono HB.size)
        clear hq hy
        go_wp2_with fail
        go_ret
        exact ⟨rfl, HBw⟩
      · have HC : Hid (¬ KnowsAll l1 l2 l3 l4) := hc
        clear hc
        go_wp2_with fail
        refine (learns15 ma mb false p _ _ l1 l2 l3 l4 _ (A1.later HBc) (A2.later HBc) (E1.below HBc) (E2.below HBc)).mono ?_
        rintro e y1 ⟨⟨b, rfl, hq⟩, hy⟩
        obtain rfl : b = true := says_true hq (Or.inl HA.out)
        have HBc := HBc.trans (hy.mono HBc.size)
        clear hq hy
        go_wp2_with fail
        refine (learns15 mb ma false p _ _ l3 l4 l1 l2 _ (A2.later HBc) (A1.later HBc) (E2.below HBc) (E1.below HBc)).mono ?_
        rintro e y2 ⟨⟨b, rfl, hq⟩, hy⟩
        obtain rfl : b = true := says_true hq (Or.inl HC.out)
        have HBc := HBc.trans (hy.mono HBc.size)
        clear hq hy
        go_wp2_with fail
        refine (learns15 ma mb true p _ _ l1 l2 l3 l4 _ (A1.later HBc) (A2.later HBc) (E1.below HBc) (E2.below HBc)).mono ?_
        rintro e y3 ⟨⟨b, rfl, hq⟩, hy⟩
        obtain rfl : b = true := says_true hq (Or.inl HA.out)
        have HBc := HBc.trans (hy.mono HBc.size)
        clear hq hy
        go_wp2_with fail
        refine (learns15 mb ma true p _ _ l3 l4 l1 l2 _ (A2.later HBc) (A1.later HBc) (E2.below HBc) (E1.below HBc)).mono ?_
        rintro e y4 ⟨⟨b, rfl, hq⟩, hy⟩
        obtain rfl : b = true := says_true hq (Or.inl HC.out)
        have HBc := HBc.trans (hy.mono HBc.size)
        clear hq hy
        have HBw := HB.trans (HBc.mono HB.size)
        go_wp2_with fail
        refine (knows16 _ _ _ _ _ _ _ _ l3 l4 l1 l2 _ (by omega) (by omega) (by omega) (by omega) (R3.out.below HBw) (R4.out.below HBw) (R1.out.below HBw) (R2.out.below HBw)).mono ?_
        rintro e y5 ⟨⟨b, rfl, hq⟩, hy⟩
        obtain rfl : b = false := says_false hq (fun h => HA.out (Z1.out.2 h))
        have HBc := HBc.trans (hy.mono HBc.size)
        have HBw := HB.trans (HBc.mono HB.size)
        clear hq hy
        go_wp2_with fail
        refine (knows16 _ _ _ _ _ _ _ _ l1 l2 l3 l4 _ (by omega) (by omega) (by omega) (by omega) (R1.out.below HBw) (R2.out.below HBw) (R3.out.below HBw) (R4.out.below HBw)).mono ?_
        rintro e y6 ⟨⟨b, rfl, hq⟩, hy⟩
        obtain rfl : b = false := says_false hq (fun h => HC.out (Z2.out.2 h))
        have HBc := HBc.trans (hy.mono HBc.size)
        have HBw := HB.trans (HBc.mono HB.size)
        clear hq hy
        go_wp2_with fail
        go_ret
        exact ⟨rfl, HBw⟩

end Go.Proofs.Qxb6612745a
