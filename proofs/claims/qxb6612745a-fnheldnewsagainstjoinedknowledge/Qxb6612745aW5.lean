/- The walk of FnHeldNewsAgainstJoinedKnowledge (5). -/
import Derived.Test.Qxb6612745aBy20
import Derived.Test.Qxb6612745aHeld
import Derived.Test.Qxb6612745aOps
import Derived.Test.Qxb6612745aLit
import Derived.Test.Qxb6612745aTrees
import Derived.Deep.CutRange
namespace Go.Proofs.Qxb6612745a
open Go.RowKit

set_option maxRecDepth 100000 in
set_option maxHeartbeats 8000000 in
theorem walk5 (p : ByteArray) (a1 a2 a3 : Option Addr) (c1 c2 c3 : Nat) (l1 l2 l3 : List (ByteArray × Int)) (w : World)
    (hl1 : l1.length ≤ 9223372036854775807) (hl2 : l2.length ≤ 9223372036854775807) (hl3 : l3.length ≤ 9223372036854775807) (hr1 : Row w a1 l1) (hr2 : Row w a2 l2) (hr3 : Row w a3 l3) (hp1 : Pos l1) (hp2 : Pos l2) (hp3 : Pos l3) :
    Calls Try.prog 5 #[.string p, .slice a1 l1.length c1, .slice a2 l2.length c2, .slice a3 l3.length c3] w fun e w' => e = .returned (.bool true) ∧ Below w.heap.size w w' := by
  have R1 : Hid (Row w a1 l1) := hr1
  have P1 : Hid (Pos l1) := hp1
  have R2 : Hid (Row w a2 l2) := hr2
  have P2 : Hid (Pos l2) := hp2
  have R3 : Hid (Row w a3 l3) := hr3
  have P3 : Hid (Pos l3) := hp3
  clear hr1 hp1 hr2 hp2 hr3 hp3
  go_enter Try.func5, Try.ntmps5
  go_wp2_with fail
  refine (bytes20 p a1 c1 l1 a2 c2 l2 a3 c3 l3 _ hl1 R1.out hl2 R2.out hl3 R3.out).mono ?_
  rintro e w' ⟨⟨b, rfl⟩, hw⟩
  rw [hw]
  clear hw w'
  cases b with
  | false =>
    go_wp2_with fail
    go_ret
    exact ⟨rfl, Below.refl _ _⟩
  | true =>
    go_wp2_with fail
    all_goals (try (go_ret; exact ⟨rfl, Below.refl _ _⟩))
    have npp : (p.size : Int) ≤ 1048576 := by omega
    have M1 : l1.length ≤ 4096 := by omega
    have M2 : l2.length ≤ 4096 := by omega
    have M3 : l3.length ≤ 4096 := by omega
    refine (addElems _ _ _ _ _ hl1 R1.out).mono ?_
    rintro e w' ⟨⟨n1, rfl⟩, hw⟩
    rw [hw]
    clear hw w'
    go_wp2_with fail
    refine (addElems _ _ _ _ _ hl2 R2.out).mono ?_
    rintro e w' ⟨⟨n2, rfl⟩, hw⟩
    rw [hw]
    clear hw w'
    go_wp2_with fail
    refine (addElems _ _ _ _ _ hl3 R3.out).mono ?_
    rintro e w' ⟨⟨n3, rfl⟩, hw⟩
    rw [hw]
    clear hw w'
    by_cases hnn : 1048576 < n3
    · go_wp2_with fail
      go_ret
      exact ⟨rfl, Below.refl _ _⟩
    have hnn' : decide (1048576 < n3) = false := by simpa using hnn
    have HB : Below w.heap.size w w := Below.refl _ _
    go_wp2_with fail
    refine (sorted13 _ _ _ _ hl1 (R1.out.below HB)).mono ?_
    rintro e z1 ⟨⟨b, rfl, hq⟩, hz⟩
    have HB := HB.trans (hz.mono HB.size)
    clear hz
    cases b with
    | false =>
      clear hq
      go_wp2_with fail
      go_ret
      exact ⟨rfl, HB⟩
    | true =>
    have S1 : Hid (Srt l1) := hq.1 rfl
    clear hq
    go_wp2_with fail
    refine (sorted13 _ _ _ _ hl2 (R2.out.below HB)).mono ?_
    rintro e z2 ⟨⟨b, rfl, hq⟩, hz⟩
    have HB := HB.trans (hz.mono HB.size)
    clear hz
    cases b with
    | false =>
      clear hq
      go_wp2_with fail
      go_ret
      exact ⟨rfl, HB⟩
    | true =>
    have S2 : Hid (Srt l2) := hq.1 rfl
    clear hq
    go_wp2_with fail
    refine (sorted13 _ _ _ _ hl3 (R3.out.below HB)).mono ?_
    rintro e z3 ⟨⟨b, rfl, hq⟩, hz⟩
    have HB := HB.trans (hz.mono HB.size)
    clear hz
    cases b with
    | false =>
      clear hq
      go_wp2_with fail
      go_ret
      exact ⟨rfl, HB⟩
    | true =>
    have S3 : Hid (Srt l3) := hq.1 rfl
    clear hq
    go_upto_region 12 with fail
    have N1 : l1.length ≤ 1000000 := by omega
    have K1 : l1.length ≤ 500000 := by omega
    have N2 : l2.length ≤ 1000000 := by omega
    have K2 : l2.length ≤ 500000 := by omega
    have N3 : l3.length ≤ 1000000 := by omega
    have K3 : l3.length ≤ 500000 := by omega
    clear hnn hnn' hl1 hl2 hl3 M1 M2 M3 npp
    go_cut [10] from 14 to 70 (fun vv wz => T2 (fun m ds => ent 3 Sl.nil m Sl.nil Sl.nil ds Sl.nil) z3 p l1 l2 vv wz)
    case first =>
     as_aux_lemma =>
      go_wp2_with ((with_reducible refine stopTree ?_ ?_); · exact rfl)
      refine Stop.go (wpList_makeTree (by rfl) (by rfl) ?_)
      intro m x0 lo1 hi1 hm0 hbx
      have HBx := HB.trans (hbx.mono HB.size)
      go_wp2_with fail
      refine (time14s _ _ _ _ N1 (R1.out.below HBx)).mono ?_
      rintro e x1 ⟨⟨s0, rfl, hs0⟩, hb⟩
      have hm1 := hm0.below hb
      have HBx := HBx.trans (hb.mono HBx.size)
      have hbx := hbx.trans (hb.mono hbx.size)
      clear hb
      go_wp2_with fail
      refine (time14s _ _ _ _ N2 (R2.out.below HBx)).mono ?_
      rintro e x2 ⟨⟨s1, rfl, hs1⟩, hb⟩
      have hm2 := hm1.below hb
      have hs0 := hs0.below hb
      have HBx := HBx.trans (hb.mono HBx.size)
      have hbx := hbx.trans (hb.mono hbx.size)
      clear hb
      go_wp2_with ((with_reducible refine stopTree ?_ ?_); · exact rfl)
      refine Stop.go (wpList_insert _ _ _ (by rfl) (by rfl) m p (.agg (ent 3 Sl.nil s0 Sl.nil Sl.nil s1 Sl.nil)) _ (by rfl) (by rfl) (by rfl) hm2 rfl ?_)
      intro xz hmz htz
      have hs0 := hs0.mapped hm2 htz
      have hs1 := hs1.mapped hm2 htz
      have hbx := hbx.trans (htz.below lo1)
      go_wp2_with fail
      go_meet
      case rel => exact ⟨m, s0, s1, rfl, hmz, hs0, hs1, hbx⟩
    case rest =>
    obtain ⟨mf, s1, s2, rfl, hMf, hs1, hs2, hbc⟩ := hcut
    have HB := HB.trans (hbc.mono HB.size)
    clear hbc
    go_upto_region 13 with fail
    go_cut [11] from 14 to 76 (fun vv wz => T1 (fun s => ent 3 Sl.nil Sl.nil s Sl.nil Sl.nil Sl.nil) wc p l3 vv wz)
    case first =>
     as_aux_lemma =>
      go_wp2_with ((with_reducible refine stopTree ?_ ?_); · exact rfl)
      refine Stop.go (wpList_makeTree (by rfl) (by rfl) ?_)
      intro m x0 lo1 hi1 hm0 hbx
      have HBx := HB.trans (hbx.mono HB.size)
      go_wp2_with fail
      refine (time14s _ _ _ _ N3 (R3.out.below HBx)).mono ?_
      rintro e x1 ⟨⟨s0, rfl, hs0⟩, hb⟩
      have hm1 := hm0.below hb
      have HBx := HBx.trans (hb.mono HBx.size)
      have hbx := hbx.trans (hb.mono hbx.size)
      clear hb
      go_wp2_with ((with_reducible refine stopTree ?_ ?_); · exact rfl)
      refine Stop.go (wpList_insert _ _ _ (by rfl) (by rfl) m p (.agg (ent 3 Sl.nil Sl.nil s0 Sl.nil Sl.nil Sl.nil)) _ (by rfl) (by rfl) (by rfl) hm1 rfl ?_)
      intro xz hmz htz
      have hs0 := hs0.mapped hm1 htz
      have hbx := hbx.trans (htz.below lo1)
      go_wp2_with fail
      go_meet
      case rel => exact ⟨m, s0, rfl, hmz, hs0, hbx⟩
    case rest =>
    obtain ⟨mt, s3, rfl, hMt, hs3, hbc⟩ := hcut
    have hMf := hMf.below hbc
    have hs1 := hs1.below hbc
    have hs2 := hs2.below hbc
    have HB := HB.trans (hbc.mono HB.size)
    clear hbc
    go_upto_region 14 with fail
    go_cut [12] from 14 to 85 (fun vv wz => TM (fun s => ent 3 Sl.nil Sl.nil s Sl.nil Sl.nil Sl.nil) wc p l3 l2 vv wz)
    case first =>
     as_aux_lemma =>
      go_wp2_with ((with_reducible refine stopTree ?_ ?_); · exact rfl)
      refine Stop.go (wpList_makeTree (by rfl) (by rfl) ?_)
      intro m x0 lo1 hi1 hm0 hbx
      have HBx := HB.trans (hbx.mono HB.size)
      go_wp2_with fail
      refine (time14s _ _ _ _ N3 (R3.out.below HBx)).mono ?_
      rintro e x1 ⟨⟨u0, rfl, hu0⟩, hb⟩
      have hm1 := hm0.below hb
      have HBx := HBx.trans (hb.mono HBx.size)
      have hbx := hbx.trans (hb.mono hbx.size)
      clear hb
      go_wp2_with fail
      refine (time14s _ _ _ _ N2 (R2.out.below HBx)).mono ?_
      rintro e x2 ⟨⟨v0, rfl, hv0⟩, hb⟩
      have hm2 := hm1.below hb
      have hu0 := hu0.below hb
      have HBx := HBx.trans (hb.mono HBx.size)
      have hbx := hbx.trans (hb.mono hbx.size)
      clear hb
      go_wp2_with fail
      refine (max18s u0 v0 l3 l2 _ hu0 hv0 K3 K2 S3.out S2.out P3.out P2.out).mono ?_
      rintro e x3 ⟨⟨q0, s0, rfl, hs0, -, hmax0, hlen0⟩, hb⟩
      have hm3 := hm2.below hb
      have HBx := HBx.trans (hb.mono HBx.size)
      have hbx := hbx.trans (hb.mono hbx.size)
      clear hb
      go_wp2_with ((with_reducible refine stopTree ?_ ?_); · exact rfl)
      refine Stop.go (wpList_insert _ _ _ (by rfl) (by rfl) m p (.agg (ent 3 Sl.nil Sl.nil s0 Sl.nil Sl.nil Sl.nil)) _ (by rfl) (by rfl) (by rfl) hm3 rfl ?_)
      intro xz hmz htz
      have hs0 := hs0.mapped hm3 htz
      have hbx := hbx.trans (htz.below lo1)
      go_wp2_with fail
      go_meet
      case rel => exact ⟨m, s0, q0, rfl, hmz, hs0, hmax0, hlen0, hbx⟩
    case rest =>
    obtain ⟨md, s4, l4, rfl, hMd, hs4, hX4, hn4, hbc⟩ := hcut
    have hMf := hMf.below hbc
    have hs1 := hs1.below hbc
    have hs2 := hs2.below hbc
    have hMt := hMt.below hbc
    have hs3 := hs3.below hbc
    have HB := HB.trans (hbc.mono HB.size)
    clear hbc
    go_upto_region 15 with fail
    go_cut [13] from 14 to 94 (fun vv wz => TM (fun s => ent 3 Sl.nil Sl.nil s Sl.nil Sl.nil Sl.nil) wc p l3 l1 vv wz)
    case first =>
     as_aux_lemma =>
      go_wp2_with ((with_reducible refine stopTree ?_ ?_); · exact rfl)
      refine Stop.go (wpList_makeTree (by rfl) (by rfl) ?_)
      intro m x0 lo1 hi1 hm0 hbx
      have HBx := HB.trans (hbx.mono HB.size)
      go_wp2_with fail
      refine (time14s _ _ _ _ N3 (R3.out.below HBx)).mono ?_
      rintro e x1 ⟨⟨u0, rfl, hu0⟩, hb⟩
      have hm1 := hm0.below hb
      have HBx := HBx.trans (hb.mono HBx.size)
      have hbx := hbx.trans (hb.mono hbx.size)
      clear hb
      go_wp2_with fail
      refine (time14s _ _ _ _ N1 (R1.out.below HBx)).mono ?_
      rintro e x2 ⟨⟨v0, rfl, hv0⟩, hb⟩
      have hm2 := hm1.below hb
      have hu0 := hu0.below hb
      have HBx := HBx.trans (hb.mono HBx.size)
      have hbx := hbx.trans (hb.mono hbx.size)
      clear hb
      go_wp2_with fail
      refine (max18s u0 v0 l3 l1 _ hu0 hv0 K3 K1 S3.out S1.out P3.out P1.out).mono ?_
      rintro e x3 ⟨⟨q0, s0, rfl, hs0, -, hmax0, hlen0⟩, hb⟩
      have hm3 := hm2.below hb
      have HBx := HBx.trans (hb.mono HBx.size)
      have hbx := hbx.trans (hb.mono hbx.size)
      clear hb
      go_wp2_with ((with_reducible refine stopTree ?_ ?_); · exact rfl)
      refine Stop.go (wpList_insert _ _ _ (by rfl) (by rfl) m p (.agg (ent 3 Sl.nil Sl.nil s0 Sl.nil Sl.nil Sl.nil)) _ (by rfl) (by rfl) (by rfl) hm3 rfl ?_)
      intro xz hmz htz
      have hs0 := hs0.mapped hm3 htz
      have hbx := hbx.trans (htz.below lo1)
      go_wp2_with fail
      go_meet
      case rel => exact ⟨m, s0, q0, rfl, hmz, hs0, hmax0, hlen0, hbx⟩
    case rest =>
    obtain ⟨mm, s5, l5, rfl, hMm, hs5, hX5, hn5, hbc⟩ := hcut
    have hMf := hMf.below hbc
    have hs1 := hs1.below hbc
    have hs2 := hs2.below hbc
    have hMt := hMt.below hbc
    have hs3 := hs3.below hbc
    have hMd := hMd.below hbc
    have hs4 := hs4.below hbc
    have HB := HB.trans (hbc.mono HB.size)
    clear hbc
    have A1 : AtMD wc mf p s1 s2 := AtMD.hit hMf (if_pos rfl)
    have B1 : BnS wc mt p s3 := BnS.hit hMt (if_pos rfl) hs3 K3 S3.out P3.out
    have B2 : BnS wc md p s4 := BnS.hit hMd (if_pos rfl) hs4 (by omega) hX4.1 hX4.2.1
    have B3 : BnS wc mm p s5 := BnS.hit hMm (if_pos rfl) hs5 (by omega) hX5.1 hX5.2.1
    have E2 : Hid (¬ News l1 l2 l4) := fun h => h.2 fun s => by rw [hX4.2.2 s]; exact Int.le_max_right _ _
    have E3 : Hid (¬ News l1 l2 l5) := fun h => h.1 fun s => by rw [hX5.2.2 s]; exact Int.le_max_right _ _
    have S4 : Hid (Srt l4) := hX4.1
    have P4 : Hid (Pos l4) := hX4.2.1
    have S5 : Hid (Srt l5) := hX5.1
    have P5 : Hid (Pos l5) := hX5.2.1
    have N4 : l4.length ≤ 1000000 := by omega
    have N5 : l5.length ≤ 1000000 := by omega
    have HBc : Below wc.heap.size wc wc := Below.refl _ _
    clear hX4 hX5 hMf hMt hMd hMm hn4 hn5 K1 K2 K3
    go_wp2_with fail
    refine (held21 mf mt p s1 s2 s3 l1 l2 l3 _ (A1.later HBc) (B1.later HBc) (hs1.below HBc) (hs2.below HBc) (hs3.below HBc) N1 N2 N3 S1.out S2.out S3.out P3.out).mono ?_
    rintro e y1 ⟨⟨b, rfl, hq⟩, hy⟩
    have HQ : Hid (b = true ↔ News l1 l2 l3) := hq
    have HBc := HBc.trans (hy.mono HBc.size)
    have HBw := HB.trans (HBc.mono HB.size)
    clear hq hy
    go_wp2_with fail
    refine (leq22 _ _ _ _ l1 l3 _ (by omega) (by omega) (R1.out.below HBw) (R3.out.below HBw)).mono ?_
    rintro e y2 ⟨rfl, hy⟩
    have HBc := HBc.trans (hy.mono HBc.size)
    have HBw := HB.trans (HBc.mono HB.size)
    clear hy
    by_cases hx : ∀ x ∈ l1, x.2 ≤ valF l3 x.1
    · rw [decide_eq_true hx]
      obtain rfl : b = false := by cases b with | false => rfl | true => exact absurd ((LE_iff S1.out P3.out).2 hx) (HQ.out.1 rfl).1
      clear hx HQ
      go_wp2_with fail
      refine (held21 mf md p s1 s2 s4 l1 l2 l4 _ (A1.later HBc) (B2.later HBc) (hs1.below HBc) (hs2.below HBc) (hs4.below HBc) N1 N2 N4 S1.out S2.out S4.out P4.out).mono ?_
      rintro e y7 ⟨⟨b, rfl, hq⟩, hy⟩
      obtain rfl : b = false := by cases b with | false => rfl | true => exact absurd (hq.1 rfl) E2.out
      have HBc := HBc.trans (hy.mono HBc.size)
      clear hq hy
      go_wp2_with fail
      refine (held21 mf mm p s1 s2 s5 l1 l2 l5 _ (A1.later HBc) (B3.later HBc) (hs1.below HBc) (hs2.below HBc) (hs5.below HBc) N1 N2 N5 S1.out S2.out S5.out P5.out).mono ?_
      rintro e y8 ⟨⟨b, rfl, hq⟩, hy⟩
      obtain rfl : b = false := by cases b with | false => rfl | true => exact absurd (hq.1 rfl) E3.out
      have HBc := HBc.trans (hy.mono HBc.size)
      clear hq hy
      go_wp2_with fail
      go_ret
      exact ⟨rfl, HB.trans (HBc.mono HB.size)⟩
    · rw [decide_eq_false hx]
      have HX : Hid (¬ LE l1 l3) := fun h => hx ((LE_iff S1.out P3.out).1 h)
      clear hx
      go_wp2_with fail
      refine (leq22 _ _ _ _ l2 l3 _ (by omega) (by omega) (R2.out.below HBw) (R3.out.below HBw)).mono ?_
      rintro e y3 ⟨rfl, hy⟩
      have HBc := HBc.trans (hy.mono HBc.size)
      clear hy
      by_cases hx : ∀ x ∈ l2, x.2 ≤ valF l3 x.1
      · rw [decide_eq_true hx]
        obtain rfl : b = false := by cases b with | false => rfl | true => exact absurd ((LE_iff S2.out P3.out).2 hx) (HQ.out.1 rfl).2
        clear hx HQ
        go_wp2_with fail
        refine (held21 mf md p s1 s2 s4 l1 l2 l4 _ (A1.later HBc) (B2.later HBc) (hs1.below HBc) (hs2.below HBc) (hs4.below HBc) N1 N2 N4 S1.out S2.out S4.out P4.out).mono ?_
        rintro e y7 ⟨⟨b, rfl, hq⟩, hy⟩
        obtain rfl : b = false := by cases b with | false => rfl | true => exact absurd (hq.1 rfl) E2.out
        have HBc := HBc.trans (hy.mono HBc.size)
        clear hq hy
        go_wp2_with fail
        refine (held21 mf mm p s1 s2 s5 l1 l2 l5 _ (A1.later HBc) (B3.later HBc) (hs1.below HBc) (hs2.below HBc) (hs5.below HBc) N1 N2 N5 S1.out S2.out S5.out P5.out).mono ?_
        rintro e y8 ⟨⟨b, rfl, hq⟩, hy⟩
        obtain rfl : b = false := by cases b with | false => rfl | true => exact absurd (hq.1 rfl) E3.out
        have HBc := HBc.trans (hy.mono HBc.size)
        clear hq hy
        go_wp2_with fail
        go_ret
        exact ⟨rfl, HB.trans (HBc.mono HB.size)⟩
      · rw [decide_eq_false hx]
        obtain rfl : b = true := HQ.out.2 ⟨HX.out, fun h => hx ((LE_iff S2.out P3.out).1 h)⟩
        clear hx HQ
        go_wp2_with fail
        refine (held21 mf md p s1 s2 s4 l1 l2 l4 _ (A1.later HBc) (B2.later HBc) (hs1.below HBc) (hs2.below HBc) (hs4.below HBc) N1 N2 N4 S1.out S2.out S4.out P4.out).mono ?_
        rintro e y7 ⟨⟨b, rfl, hq⟩, hy⟩
        obtain rfl : b = false := by cases b with | false => rfl | true => exact absurd (hq.1 rfl) E2.out
        have HBc := HBc.trans (hy.mono HBc.size)
        clear hq hy
        go_wp2_with fail
        refine (held21 mf mm p s1 s2 s5 l1 l2 l5 _ (A1.later HBc) (B3.later HBc) (hs1.below HBc) (hs2.below HBc) (hs5.below HBc) N1 N2 N5 S1.out S2.out S5.out P5.out).mono ?_
        rintro e y8 ⟨⟨b, rfl, hq⟩, hy⟩
        obtain rfl : b = false := by cases b with | false => rfl | true => exact absurd (hq.1 rfl) E3.out
        have HBc := HBc.trans (hy.mono HBc.size)
        clear hq hy
        go_wp2_with fail
        go_ret
        exact ⟨rfl, HB.trans (HBc.mono HB.size)⟩

end Go.Proofs.Qxb6612745a
