/- The walk of FnLearnsAtHoldingStopsOnceBHoldsTheJoin (4). -/
import Derived.Test.Qxb6612745aBy17
import Derived.Test.Qxb6612745aLaw
import Derived.Test.Qxb6612745aLit
import Derived.Test.Qxb6612745aTrees
import Derived.Deep.CutRange
namespace Go.Proofs.Qxb6612745a
open Go.RowKit

set_option maxRecDepth 100000 in
set_option maxHeartbeats 8000000 in
theorem walk4 (p : ByteArray) (a1 a2 a3 a4 : Option Addr) (c1 c2 c3 c4 : Nat) (l1 l2 l3 l4 : List (ByteArray × Int)) (w : World)
    (hl1 : l1.length ≤ 9223372036854775807) (hl2 : l2.length ≤ 9223372036854775807) (hl3 : l3.length ≤ 9223372036854775807) (hl4 : l4.length ≤ 9223372036854775807) (hr1 : Row w a1 l1) (hr2 : Row w a2 l2) (hr3 : Row w a3 l3) (hr4 : Row w a4 l4) (hp1 : Pos l1) (hp2 : Pos l2) (hp3 : Pos l3) (hp4 : Pos l4) :
    Calls Try.prog 4 #[.string p, .slice a1 l1.length c1, .slice a2 l2.length c2, .slice a3 l3.length c3, .slice a4 l4.length c4] w fun e w' => e = .returned (.bool true) ∧ Below w.heap.size w w' := by
  have R1 : Hid (Row w a1 l1) := hr1
  have P1 : Hid (Pos l1) := hp1
  have R2 : Hid (Row w a2 l2) := hr2
  have P2 : Hid (Pos l2) := hp2
  have R3 : Hid (Row w a3 l3) := hr3
  have P3 : Hid (Pos l3) := hp3
  have R4 : Hid (Row w a4 l4) := hr4
  have P4 : Hid (Pos l4) := hp4
  clear hr1 hp1 hr2 hp2 hr3 hp3 hr4 hp4
  go_enter Try.func4, Try.ntmps4
  go_wp2_with fail
  refine (bytes17 p a1 c1 l1 a2 c2 l2 a3 c3 l3 a4 c4 l4 _ hl1 R1.out hl2 R2.out hl3 R3.out hl4 R4.out).mono ?_
  rintro e w' ⟨⟨b, rfl⟩, hw⟩
  rw [hw]
  clear hw w'
  cases b with
  | false =>
    go_wp2_with fail
    go_ret
    exact ⟨rfl, Below.refl _ _⟩
  | true =>
    go_wp2_with fail
    all_goals (try (go_ret; exact ⟨rfl, Below.refl _ _⟩))
    have npp : (p.size : Int) ≤ 1048576 := by omega
    have M1 : l1.length ≤ 4096 := by omega
    have M2 : l2.length ≤ 4096 := by omega
    have M3 : l3.length ≤ 4096 := by omega
    have M4 : l4.length ≤ 4096 := by omega
    refine (addElems _ _ _ _ _ hl1 R1.out).mono ?_
    rintro e w' ⟨⟨n1, rfl⟩, hw⟩
    rw [hw]
    clear hw w'
    go_wp2_with fail
    refine (addElems _ _ _ _ _ hl2 R2.out).mono ?_
    rintro e w' ⟨⟨n2, rfl⟩, hw⟩
    rw [hw]
    clear hw w'
    go_wp2_with fail
    refine (addElems _ _ _ _ _ hl3 R3.out).mono ?_
    rintro e w' ⟨⟨n3, rfl⟩, hw⟩
    rw [hw]
    clear hw w'
    go_wp2_with fail
    refine (addElems _ _ _ _ _ hl4 R4.out).mono ?_
    rintro e w' ⟨⟨n4, rfl⟩, hw⟩
    rw [hw]
    clear hw w'
    by_cases hnn : 1048576 < n4
    · go_wp2_with fail
      go_ret
      exact ⟨rfl, Below.refl _ _⟩
    have hnn' : decide (1048576 < n4) = false := by simpa using hnn
    have HB : Below w.heap.size w w := Below.refl _ _
    go_wp2_with fail
    refine (sorted13 _ _ _ _ hl1 (R1.out.below HB)).mono ?_
    rintro e z1 ⟨⟨b, rfl, hq⟩, hz⟩
    have HB := HB.trans (hz.mono HB.size)
    clear hz
    cases b with
    | false =>
      clear hq
      go_wp2_with fail
      go_ret
      exact ⟨rfl, HB⟩
    | true =>
    have S1 : Hid (Srt l1) := hq.1 rfl
    clear hq
    go_wp2_with fail
    refine (sorted13 _ _ _ _ hl2 (R2.out.below HB)).mono ?_
    rintro e z2 ⟨⟨b, rfl, hq⟩, hz⟩
    have HB := HB.trans (hz.mono HB.size)
    clear hz
    cases b with
    | false =>
      clear hq
      go_wp2_with fail
      go_ret
      exact ⟨rfl, HB⟩
    | true =>
    have S2 : Hid (Srt l2) := hq.1 rfl
    clear hq
    go_wp2_with fail
    refine (sorted13 _ _ _ _ hl3 (R3.out.below HB)).mono ?_
    rintro e z3 ⟨⟨b, rfl, hq⟩, hz⟩
    have HB := HB.trans (hz.mono HB.size)
    clear hz
    cases b with
    | false =>
      clear hq
      go_wp2_with fail
      go_ret
      exact ⟨rfl, HB⟩
    | true =>
    have S3 : Hid (Srt l3) := hq.1 rfl
    clear hq
    go_wp2_with fail
    refine (sorted13 _ _ _ _ hl4 (R4.out.below HB)).mono ?_
    rintro e z4 ⟨⟨b, rfl, hq⟩, hz⟩
    have HB := HB.trans (hz.mono HB.size)
    clear hz
    cases b with
    | false =>
      clear hq
      go_wp2_with fail
      go_ret
      exact ⟨rfl, HB⟩
    | true =>
    have S4 : Hid (Srt l4) := hq.1 rfl
    clear hq
    go_upto_region 13 with fail
    have hps : p.size ≤ 9223372036854775807 := by omega
    have N1 : l1.length ≤ 1000000 := by omega
    have K1 : l1.length ≤ 5000 := by omega
    have N2 : l2.length ≤ 1000000 := by omega
    have K2 : l2.length ≤ 5000 := by omega
    have N3 : l3.length ≤ 1000000 := by omega
    have K3 : l3.length ≤ 5000 := by omega
    have N4 : l4.length ≤ 1000000 := by omega
    have K4 : l4.length ≤ 5000 := by omega
    clear hnn hnn' hl1 hl2 hl3 hl4 M1 M2 M3 M4 npp
    go_cut [12] from 15 to 85 (fun vv wz => T2 (fun s ds => ent 1 Sl.nil Sl.nil s Sl.nil ds Sl.nil) z4 p l1 l2 vv wz)
    case first =>
     as_aux_lemma =>
      go_wp2_with ((with_reducible refine stopTree ?_ ?_); · exact rfl)
      refine Stop.go (wpList_makeTree (by rfl) (by rfl) ?_)
      intro m x0 lo1 hi1 hm0 hbx
      have HBx := HB.trans (hbx.mono HB.size)
      go_wp2_with fail
      refine (time14s _ _ _ _ N1 (R1.out.below HBx)).mono ?_
      rintro e x1 ⟨⟨s0, rfl, hs0⟩, hb⟩
      have hm1 := hm0.below hb
      have HBx := HBx.trans (hb.mono HBx.size)
      have hbx := hbx.trans (hb.mono hbx.size)
      clear hb
      go_wp2_with fail
      refine (time14s _ _ _ _ N2 (R2.out.below HBx)).mono ?_
      rintro e x2 ⟨⟨s1, rfl, hs1⟩, hb⟩
      have hm2 := hm1.below hb
      have hs0 := hs0.below hb
      have HBx := HBx.trans (hb.mono HBx.size)
      have hbx := hbx.trans (hb.mono hbx.size)
      clear hb
      go_wp2_with ((with_reducible refine stopTree ?_ ?_); · exact rfl)
      refine Stop.go (wpList_insert _ _ _ (by rfl) (by rfl) m p (.agg (ent 1 Sl.nil Sl.nil s0 Sl.nil s1 Sl.nil)) _ (by rfl) (by rfl) (by rfl) hm2 rfl ?_)
      intro xz hmz htz
      have hs0 := hs0.mapped hm2 htz
      have hs1 := hs1.mapped hm2 htz
      have hbx := hbx.trans (htz.below lo1)
      go_wp2_with fail
      go_meet
      case rel => exact ⟨m, s0, s1, rfl, hmz, hs0, hs1, hbx⟩
    case rest =>
    obtain ⟨ma, s1, s2, rfl, hMa, hs1, hs2, hbc⟩ := hcut
    have HB := HB.trans (hbc.mono HB.size)
    clear hbc
    go_upto_region 14 with fail
    go_cut [13] from 15 to 99 (fun vv wz => TMM (fun s ds => ent 1 Sl.nil Sl.nil s Sl.nil ds Sl.nil) wc p l3 l1 l4 l2 vv wz)
    case first =>
     as_aux_lemma =>
      go_wp2_with ((with_reducible refine stopTree ?_ ?_); · exact rfl)
      refine Stop.go (wpList_makeTree (by rfl) (by rfl) ?_)
      intro m x0 lo1 hi1 hm0 hbx
      have HBx := HB.trans (hbx.mono HB.size)
      go_wp2_with fail
      refine (time14s _ _ _ _ N3 (R3.out.below HBx)).mono ?_
      rintro e x1 ⟨⟨u0, rfl, hu0⟩, hb⟩
      have hm1 := hm0.below hb
      have HBx := HBx.trans (hb.mono HBx.size)
      have hbx := hbx.trans (hb.mono hbx.size)
      clear hb
      go_wp2_with fail
      refine (time14s _ _ _ _ N1 (R1.out.below HBx)).mono ?_
      rintro e x2 ⟨⟨v0, rfl, hv0⟩, hb⟩
      have hm2 := hm1.below hb
      have hu0 := hu0.below hb
      have HBx := HBx.trans (hb.mono HBx.size)
      have hbx := hbx.trans (hb.mono hbx.size)
      clear hb
      go_wp2_with fail
      refine (max18s u0 v0 l3 l1 _ hu0 hv0 (by omega) (by omega) S3.out S1.out P3.out P1.out).mono ?_
      rintro e x3 ⟨⟨q0, s0, rfl, hs0, -, hmax0, hlen0⟩, hb⟩
      have hm3 := hm2.below hb
      have HBx := HBx.trans (hb.mono HBx.size)
      have hbx := hbx.trans (hb.mono hbx.size)
      clear hb
      go_wp2_with fail
      refine (time14s _ _ _ _ N4 (R4.out.below HBx)).mono ?_
      rintro e x4 ⟨⟨u1, rfl, hu1⟩, hb⟩
      have hm4 := hm3.below hb
      have hs0 := hs0.below hb
      have HBx := HBx.trans (hb.mono HBx.size)
      have hbx := hbx.trans (hb.mono hbx.size)
      clear hb
      go_wp2_with fail
      refine (time14s _ _ _ _ N2 (R2.out.below HBx)).mono ?_
      rintro e x5 ⟨⟨v1, rfl, hv1⟩, hb⟩
      have hm5 := hm4.below hb
      have hs0 := hs0.below hb
      have hu1 := hu1.below hb
      have HBx := HBx.trans (hb.mono HBx.size)
      have hbx := hbx.trans (hb.mono hbx.size)
      clear hb
      go_wp2_with fail
      refine (max18s u1 v1 l4 l2 _ hu1 hv1 (by omega) (by omega) S4.out S2.out P4.out P2.out).mono ?_
      rintro e x6 ⟨⟨q1, s1, rfl, hs1, -, hmax1, hlen1⟩, hb⟩
      have hm6 := hm5.below hb
      have hs0 := hs0.below hb
      have HBx := HBx.trans (hb.mono HBx.size)
      have hbx := hbx.trans (hb.mono hbx.size)
      clear hb
      go_wp2_with ((with_reducible refine stopTree ?_ ?_); · exact rfl)
      refine Stop.go (wpList_insert _ _ _ (by rfl) (by rfl) m p (.agg (ent 1 Sl.nil Sl.nil s0 Sl.nil s1 Sl.nil)) _ (by rfl) (by rfl) (by rfl) hm6 rfl ?_)
      intro xz hmz htz
      have hs0 := hs0.mapped hm6 htz
      have hs1 := hs1.mapped hm6 htz
      have hbx := hbx.trans (htz.below lo1)
      go_wp2_with fail
      go_meet
      case rel => exact ⟨m, s0, s1, q0, q1, rfl, hmz, hs0, hs1, hmax0, hmax1, hlen0, hlen1, hbx⟩
    case rest =>
    obtain ⟨mj, s5, s6, l5, l6, rfl, hMj, hs5, hs6, hX5, hX6, hn5, hn6, hbc⟩ := hcut
    have hMa := hMa.below hbc
    have hs1 := hs1.below hbc
    have hs2 := hs2.below hbc
    have HB := HB.trans (hbc.mono HB.size)
    clear hbc
    have A1 : AtE wc ma p _ := AtE.hit (One.ent ..) hMa (if_pos rfl)
    have A2 : AtE wc mj p _ := AtE.hit (One.ent ..) hMj (if_pos rfl)
    have E1 := KE.file hs1 hs2 (by omega) (by omega) S1.out S2.out P1.out P2.out
    have E2 := KE.file hs5 hs6 (by omega) (by omega) hX5.1 hX6.1 hX5.2.1 hX6.2.1
    have HBc : Below wc.heap.size wc wc := Below.refl _ _
    have HJ : Hid (KnowsAll l5 l6 l1 l2) := knows_join hX5 hX6
    have Z1 : Hid (KnowsAll [] [] l1 l2 ↔ ¬ ((∃ x ∈ l1, 0 < x.2) ∨ ∃ x ∈ l2, 0 < x.2)) := knows_nothing S1.out S2.out
    clear hMa hMj hs1 hs2 hs5 hs6 hX5 hX6 hn5 hn6
    go_wp2_with ((with_reducible refine stopTree ?_ ?_); · exact rfl)
    refine Stop.go (wpList_makeTree (by rfl) (by rfl) ?_)
    intro m0 x0 lo0 hi0 hm0 hb0
    have HBc := HBc.trans (hb0.mono HBc.size)
    have A3 : AtE x0 m0 p ent0 := AtE.empty hps hm0 (fun _ => rfl)
    clear hm0 hb0 lo0 hi0
    go_wp2_with fail
    refine (learns15 ma m0 false p _ _ l1 l2 [] [] _ (A1.later HBc) A3 (E1.below HBc) (KE.zero _)).mono ?_
    rintro e y1 ⟨⟨b, rfl, hq⟩, hy⟩
    have HQ : Hid (b = true ↔ Learns false l1 l2 [] []) := hq
    have HBc := HBc.trans (hy.mono HBc.size)
    have HBw := HB.trans (HBc.mono HB.size)
    clear hq hy A3
    by_cases h1 : ∃ x ∈ l1, 0 < x.2
    · have H1 : Hid (∃ x ∈ l1, 0 < x.2) := h1
      clear h1
      obtain rfl : b = true := says_true HQ.out (Or.inl fun h => Z1.out.1 h (Or.inl H1.out))
      clear HQ
      go_wp2_with fail
      refine (haspos19 _ _ l1 _ (by omega) (R1.out.below HBw)).mono ?_
      rintro e w' ⟨rfl, hw⟩
      rw [hw, decide_eq_true H1.out]
      clear hw w'
      go_wp2_with fail
      refine (learns15 ma mj false p _ _ l1 l2 l5 l6 _ (A1.later HBc) (A2.later HBc) (E1.below HBc) (E2.below HBc)).mono ?_
      rintro e y7 ⟨⟨b, rfl, hq⟩, hy⟩
      obtain rfl : b = false := says_false hq (fun h => h.elim (fun h => h HJ.out) (fun h => by cases h.1))
      have HBc := HBc.trans (hy.mono HBc.size)
      clear hq hy
      go_wp2_with fail
      refine (learns15 ma ma true p _ _ l1 l2 l1 l2 _ (A1.later HBc) (A1.later HBc) (E1.below HBc) (E1.below HBc)).mono ?_
      rintro e y8 ⟨⟨b, rfl, hq⟩, hy⟩
      obtain rfl : b = false := says_false hq (fun h => h.elim (fun h => h (knows_self _ _)) (fun h => h.2 (knows_self _ _)))
      have HBc := HBc.trans (hy.mono HBc.size)
      clear hq hy
      go_wp2_with fail
      go_ret
      exact ⟨rfl, HB.trans (HBc.mono HB.size)⟩
    · have H1 : Hid (¬ ∃ x ∈ l1, 0 < x.2) := h1
      clear h1
      by_cases h2 : ∃ x ∈ l2, 0 < x.2
      · have H2 : Hid (∃ x ∈ l2, 0 < x.2) := h2
        clear h2
        obtain rfl : b = true := says_true HQ.out (Or.inl fun h => Z1.out.1 h (Or.inr H2.out))
        clear HQ
        go_wp2_with fail
        refine (haspos19 _ _ l1 _ (by omega) (R1.out.below HBw)).mono ?_
        rintro e w' ⟨rfl, hw⟩
        rw [hw, decide_eq_false H1.out]
        clear hw w'
        go_wp2_with fail
        refine (haspos19 _ _ l2 _ (by omega) (R2.out.below HBw)).mono ?_
        rintro e w' ⟨rfl, hw⟩
        rw [hw, decide_eq_true H2.out]
        clear hw w'
        go_wp2_with fail
        refine (learns15 ma mj false p _ _ l1 l2 l5 l6 _ (A1.later HBc) (A2.later HBc) (E1.below HBc) (E2.below HBc)).mono ?_
        rintro e y7 ⟨⟨b, rfl, hq⟩, hy⟩
        obtain rfl : b = false := says_false hq (fun h => h.elim (fun h => h HJ.out) (fun h => by cases h.1))
        have HBc := HBc.trans (hy.mono HBc.size)
        clear hq hy
        go_wp2_with fail
        refine (learns15 ma ma true p _ _ l1 l2 l1 l2 _ (A1.later HBc) (A1.later HBc) (E1.below HBc) (E1.below HBc)).mono ?_
        rintro e y8 ⟨⟨b, rfl, hq⟩, hy⟩
        obtain rfl : b = false := says_false hq (fun h => h.elim (fun h => h (knows_self _ _)) (fun h => h.2 (knows_self _ _)))
        have HBc := HBc.trans (hy.mono HBc.size)
        clear hq hy
        go_wp2_with fail
        go_ret
        exact ⟨rfl, HB.trans (HBc.mono HB.size)⟩
      · have H2 : Hid (¬ ∃ x ∈ l2, 0 < x.2) := h2
        clear h2
        obtain rfl : b = false := says_false HQ.out (fun h => h.elim (fun h => h (Z1.out.2 fun h => h.elim H1.out H2.out)) (fun h => by cases h.1))
        clear HQ
        go_wp2_with fail
        refine (haspos19 _ _ l1 _ (by omega) (R1.out.below HBw)).mono ?_
        rintro e w' ⟨rfl, hw⟩
        rw [hw, decide_eq_false H1.out]
        clear hw w'
        go_wp2_with fail
        refine (haspos19 _ _ l2 _ (by omega) (R2.out.below HBw)).mono ?_
        rintro e w' ⟨rfl, hw⟩
        rw [hw, decide_eq_false H2.out]
        clear hw w'
        go_wp2_with fail
        refine (learns15 ma mj false p _ _ l1 l2 l5 l6 _ (A1.later HBc) (A2.later HBc) (E1.below HBc) (E2.below HBc)).mono ?_
        rintro e y7 ⟨⟨b, rfl, hq⟩, hy⟩
        obtain rfl : b = false := says_false hq (fun h => h.elim (fun h => h HJ.out) (fun h => by cases h.1))
        have HBc := HBc.trans (hy.mono HBc.size)
        clear hq hy
        go_wp2_with fail
        refine (learns15 ma ma true p _ _ l1 l2 l1 l2 _ (A1.later HBc) (A1.later HBc) (E1.below HBc) (E1.below HBc)).mono ?_
        rintro e y8 ⟨⟨b, rfl, hq⟩, hy⟩
        obtain rfl : b = false := says_false hq (fun h => h.elim (fun h => h (knows_self _ _)) (fun h => h.2 (knows_self _ _)))
        have HBc := HBc.trans (hy.mono HBc.size)
        clear hq hy
        go_wp2_with fail
        go_ret
        exact ⟨rfl, HB.trans (HBc.mono HB.size)⟩

end Go.Proofs.Qxb6612745a
