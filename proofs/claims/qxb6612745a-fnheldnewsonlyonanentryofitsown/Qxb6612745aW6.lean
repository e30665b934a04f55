/- The walk of FnHeldNewsOnlyOnAnEntryOfItsOwn (6). -/
import Derived.Test.Qxb6612745aBy23
import Derived.Test.Qxb6612745aHeld
import Derived.Test.Qxb6612745aOps6
import Derived.Test.Qxb6612745aLit
import Derived.Test.Qxb6612745aTrees
import Derived.Deep.CutRange
namespace Go.Proofs.Qxb6612745a
open Go.RowKit

set_option maxRecDepth 100000 in
set_option maxHeartbeats 8000000 in
theorem walk6 (p name : ByteArray) (a1 a2 a3 a4 a5 : Option Addr) (c1 c2 c3 c4 c5 : Nat) (l1 l2 l3 l4 l5 : List (ByteArray × Int)) (w : World)
    (hl1 : l1.length ≤ 9223372036854775807) (hl2 : l2.length ≤ 9223372036854775807) (hl3 : l3.length ≤ 9223372036854775807) (hl4 : l4.length ≤ 9223372036854775807) (hl5 : l5.length ≤ 9223372036854775807) (hr1 : Row w a1 l1) (hr2 : Row w a2 l2) (hr3 : Row w a3 l3) (hr4 : Row w a4 l4) (hr5 : Row w a5 l5) (hp1 : Pos l1) (hp2 : Pos l2) (hp3 : Pos l3) (hp4 : Pos l4) (hp5 : Pos l5) :
    Calls Try.prog 6 #[.string p, .string name, .slice a1 l1.length c1, .slice a2 l2.length c2, .slice a3 l3.length c3, .slice a4 l4.length c4, .slice a5 l5.length c5] w fun e w' => e = .returned (.bool true) ∧ Below w.heap.size w w' := by
  have R1 : Hid (Row w a1 l1) := hr1
  have P1 : Hid (Pos l1) := hp1
  have R2 : Hid (Row w a2 l2) := hr2
  have P2 : Hid (Pos l2) := hp2
  have R3 : Hid (Row w a3 l3) := hr3
  have P3 : Hid (Pos l3) := hp3
  have R4 : Hid (Row w a4 l4) := hr4
  have P4 : Hid (Pos l4) := hp4
  have R5 : Hid (Row w a5 l5) := hr5
  have P5 : Hid (Pos l5) := hp5
  clear hr1 hp1 hr2 hp2 hr3 hp3 hr4 hp4 hr5 hp5
  go_enter Try.func6, Try.ntmps6
  go_wp2_with fail
  refine (bytes23 p name a1 c1 l1 a2 c2 l2 a3 c3 l3 a4 c4 l4 a5 c5 l5 _ hl1 R1.out hl2 R2.out hl3 R3.out hl4 R4.out hl5 R5.out).mono ?_
  rintro e w' ⟨⟨b, rfl⟩, hw⟩
  rw [hw]
  clear hw w'
  cases b with
  | false =>
    go_wp2_with fail
    go_ret
    exact ⟨rfl, Below.refl _ _⟩
  | true =>
    go_wp2_with fail
    all_goals (try (go_ret; exact ⟨rfl, Below.refl _ _⟩))
    have npp : (p.size : Int) ≤ 1048576 := by omega
    have npname : (name.size : Int) ≤ 1048576 := by omega
    have M1 : l1.length ≤ 4096 := by omega
    have M2 : l2.length ≤ 4096 := by omega
    have M3 : l3.length ≤ 4096 := by omega
    have M4 : l4.length ≤ 4096 := by omega
    have M5 : l5.length ≤ 4096 := by omega
    refine (addElems _ _ _ _ _ hl1 R1.out).mono ?_
    rintro e w' ⟨⟨n1, rfl⟩, hw⟩
    rw [hw]
    clear hw w'
    go_wp2_with fail
    refine (addElems _ _ _ _ _ hl2 R2.out).mono ?_
    rintro e w' ⟨⟨n2, rfl⟩, hw⟩
    rw [hw]
    clear hw w'
    go_wp2_with fail
    refine (addElems _ _ _ _ _ hl3 R3.out).mono ?_
    rintro e w' ⟨⟨n3, rfl⟩, hw⟩
    rw [hw]
    clear hw w'
    go_wp2_with fail
    refine (addElems _ _ _ _ _ hl4 R4.out).mono ?_
    rintro e w' ⟨⟨n4, rfl⟩, hw⟩
    rw [hw]
    clear hw w'
    go_wp2_with fail
    refine (addElems _ _ _ _ _ hl5 R5.out).mono ?_
    rintro e w' ⟨⟨n5, rfl⟩, hw⟩
    rw [hw]
    clear hw w'
    by_cases hnn : 1048576 < n5
    · go_wp2_with fail
      go_ret
      exact ⟨rfl, Below.refl _ _⟩
    have hnn' : decide (1048576 < n5) = false := by simpa using hnn
    have HB : Below w.heap.size w w := Below.refl _ _
    go_wp2_with fail
    refine (sorted13 _ _ _ _ hl1 (R1.out.below HB)).mono ?_
    rintro e z1 ⟨⟨b, rfl, hq⟩, hz⟩
    have HB := HB.trans (hz.mono HB.size)
    clear hz
    cases b with
    | false =>
      clear hq
      go_wp2_with fail
      go_ret
      exact ⟨rfl, HB⟩
    | true =>
    have S1 : Hid (Srt l1) := hq.1 rfl
    clear hq
    go_wp2_with fail
    refine (sorted13 _ _ _ _ hl2 (R2.out.below HB)).mono ?_
    rintro e z2 ⟨⟨b, rfl, hq⟩, hz⟩
    have HB := HB.trans (hz.mono HB.size)
    clear hz
    cases b with
    | false =>
      clear hq
      go_wp2_with fail
      go_ret
      exact ⟨rfl, HB⟩
    | true =>
    have S2 : Hid (Srt l2) := hq.1 rfl
    clear hq
    go_wp2_with fail
    refine (sorted13 _ _ _ _ hl3 (R3.out.below HB)).mono ?_
    rintro e z3 ⟨⟨b, rfl, hq⟩, hz⟩
    have HB := HB.trans (hz.mono HB.size)
    clear hz
    cases b with
    | false =>
      clear hq
      go_wp2_with fail
      go_ret
      exact ⟨rfl, HB⟩
    | true =>
    have S3 : Hid (Srt l3) := hq.1 rfl
    clear hq
    go_wp2_with fail
    refine (sorted13 _ _ _ _ hl4 (R4.out.below HB)).mono ?_
    rintro e z4 ⟨⟨b, rfl, hq⟩, hz⟩
    have HB := HB.trans (hz.mono HB.size)
    clear hz
    cases b with
    | false =>
      clear hq
      go_wp2_with fail
      go_ret
      exact ⟨rfl, HB⟩
    | true =>
    have S4 : Hid (Srt l4) := hq.1 rfl
    clear hq
    go_wp2_with fail
    refine (sorted13 _ _ _ _ hl5 (R5.out.below HB)).mono ?_
    rintro e z5 ⟨⟨b, rfl, hq⟩, hz⟩
    have HB := HB.trans (hz.mono HB.size)
    clear hz
    cases b with
    | false =>
      clear hq
      go_wp2_with fail
      go_ret
      exact ⟨rfl, HB⟩
    | true =>
    have S5 : Hid (Srt l5) := hq.1 rfl
    clear hq
    go_upto_region 17 with fail
    have HU : Hid (Under p (p ++ { data := #[47] } ++ name)) := ⟨name.data.toList, by simp⟩
    have hqs : (p ++ { data := #[47] } ++ name : ByteArray).size ≤ 9223372036854775807 := by rw [ByteArray.size_append, ByteArray.size_append]; show p.size + 1 + name.size ≤ _; omega
    generalize p ++ { data := #[47] } ++ name = q at HU hqs ⊢
    have HPQ : Hid (q ≠ p) := HU.out.ne
    have N1 : l1.length ≤ 1000000 := by omega
    have K1 : l1.length ≤ 500000 := by omega
    have N2 : l2.length ≤ 1000000 := by omega
    have K2 : l2.length ≤ 500000 := by omega
    have N3 : l3.length ≤ 1000000 := by omega
    have K3 : l3.length ≤ 500000 := by omega
    have N4 : l4.length ≤ 1000000 := by omega
    have K4 : l4.length ≤ 500000 := by omega
    have N5 : l5.length ≤ 1000000 := by omega
    have K5 : l5.length ≤ 500000 := by omega
    clear hnn hnn' hl1 hl2 hl3 hl4 hl5 M1 M2 M3 M4 M5 npp npname
    go_cut [17] from 21 to 113 (fun vv wz => BoxE (fun d ds => ent 3 Sl.nil Sl.nil Sl.nil d ds Sl.nil) z5 l4 l5 vv wz)
    case first =>
     as_aux_lemma =>
      go_wp2_with fail
      refine (time14s _ _ _ _ N4 (R4.out.below HB)).mono ?_
      rintro e x1 ⟨⟨c, rfl, hc⟩, hb1⟩
      have HB1 := HB.trans (hb1.mono HB.size)
      go_wp2_with fail
      refine (time14s _ _ _ _ N5 (R5.out.below HB1)).mono ?_
      rintro e x2 ⟨⟨r, rfl, hr⟩, hb2⟩
      go_wp2_with ((with_reducible refine stopTree ?_ ?_); · exact rfl)
      refine Stop.go (wpList_alloc_ent (by rfl) (by rfl) ?_)
      intro b x3 lo3 hi3 he3 hb3
      go_wp2_with ((with_reducible refine stopTree ?_ ?_); · exact rfl)
      refine Stop.go (wpList_store_ent _ _ (by rfl) (by rfl) _ _ (ent 3 Sl.nil Sl.nil Sl.nil c r Sl.nil) (by rfl) (by rfl) he3 (One.ent ..) ?_)
      intro x4 he4 ht4
      have hb4 := hb3.trans (ht4.below lo3)
      go_wp2_with fail
      go_meet
      case rel => exact ⟨b, c, r, rfl, he4, (hc.below hb2).below hb4, hr.below hb4, (hb1.trans (hb2.mono hb1.size)).trans (hb4.mono (by have := hb1.size; have := hb2.size; omega))⟩
    case rest =>
    obtain ⟨bd, s4, s5, rfl, hEd, hs4, hs5, hbc⟩ := hcut
    have HB := HB.trans (hbc.mono HB.size)
    clear hbc
    go_upto_region 18 with fail
    have RR1 := R1.out.below HB
    have RR2 := R2.out.below HB
    go_cut [18] from 21 to 123 (fun vv wz => Two6 wc p q (ent 3 Sl.nil Sl.nil Sl.nil s4 s5 Sl.nil) l1 l2 vv wz)
    case first =>
     as_aux_lemma =>
      clear hs4 hs5
      refine wp_region_two (ds := [114, 115, 116, 117, 118, 119, 120, 121, 122, 123, 18]) (p := p) (q := q) (S := S6 p q (ent 3 Sl.nil Sl.nil Sl.nil s4 s5 Sl.nil) (.slice a1 l1.length c1) (.slice a2 l2.length c2) l1 l2) (iM := 0) (iP := 3) (iQ := 10) (iX := 11) (iA := 12) (iE := 2) (iF := 9) (deps := deps6)
        (by kernel_rfl) (by kernel_rfl) (slotsOk_spec (by kernel_rfl)) (by kernel_rfl) (stays6 _ _ _ _ _ _ _) HPQ.out ⟨by decide, by decide, by decide, by decide, by decide⟩ (by decide) (by decide) (by decide)
        ⟨_, _, rfl, rfl, rfl⟩ ?_ ?_
        ⟨_, _, _, rfl, rfl, rfl, rfl, by decide⟩ ⟨_, _, _, rfl, rfl, rfl, rfl, by decide, by decide⟩ (fun _ _ => trivial) ?_ rfl ?_
      · exact ⟨_, _, _, _, rfl, rfl, rfl, rfl, rfl, fun a w hk hs => (slot_eval a 115).trans (hs 1 (by decide)), by decide, by decide⟩
      · exact ⟨_, _, _, _, rfl, rfl, rfl, rfl, rfl, fun a w hk hs => (slot_eval a 117).trans (hs 4 (by decide)), by decide, by decide⟩
      · intro i o h1 h2 h3 h4 h5 ho
        have hi := lt_of_get ho
        have hi : i < 13 := hi
        obtain rfl | rfl | rfl | rfl | rfl | rfl | rfl | rfl : i = 1 ∨ i = 2 ∨ i = 4 ∨ i = 5 ∨ i = 6 ∨ i = 7 ∨ i = 8 ∨ i = 9 := by omega
        · simp only [List.getElem?_toArray, List.getElem?_cons_succ, List.getElem?_cons_zero, Option.some.injEq] at ho; subst ho
          exact ⟨⟨_, rfl⟩, fun a w hk hb hs => wp_move _ rfl ⟨_, rfl, (slot_eval a 0).trans (hk.slot (by decide)), Below.refl _ _⟩⟩
        · simp only [List.getElem?_toArray, List.getElem?_cons_succ, List.getElem?_cons_zero, Option.some.injEq] at ho; subst ho
          exact ⟨⟨_, rfl⟩, fun a w hk hb hs => wp_loadEnt _ rfl ((slot_eval a 17).trans (hk.slot (by decide))) (hEd.below hb) ⟨_, rfl, rfl, Below.refl _ _⟩⟩
        · simp only [List.getElem?_toArray, List.getElem?_cons_succ, List.getElem?_cons_zero, Option.some.injEq] at ho; subst ho
          exact ⟨⟨_, rfl⟩, fun a w hk hb hs => wp_move _ rfl ⟨_, rfl, (slot_eval a 16).trans (hk.slot (by decide)), Below.refl _ _⟩⟩
        · simp only [List.getElem?_toArray, List.getElem?_cons_succ, List.getElem?_cons_zero, Option.some.injEq] at ho; subst ho
          exact ⟨⟨_, rfl⟩, fun a w hk hb hs => wp_move _ rfl ⟨_, rfl, (slot_eval a 2).trans (hk.slot (by decide)), Below.refl _ _⟩⟩
        · simp only [List.getElem?_toArray, List.getElem?_cons_succ, List.getElem?_cons_zero, Option.some.injEq] at ho; subst ho
          exact ⟨⟨_, rfl⟩, fun a w hk hb hs => wp_call14 _ rfl ((slot_eval a 118).trans (hs 5 (by decide))) N1 (RR1.below hb) fun s w' hs hb => ⟨_, rfl, ⟨s, rfl, hs⟩, hb⟩⟩
        · simp only [List.getElem?_toArray, List.getElem?_cons_succ, List.getElem?_cons_zero, Option.some.injEq] at ho; subst ho
          exact ⟨⟨_, rfl⟩, fun a w hk hb hs => wp_move _ rfl ⟨_, rfl, (slot_eval a 3).trans (hk.slot (by decide)), Below.refl _ _⟩⟩
        · simp only [List.getElem?_toArray, List.getElem?_cons_succ, List.getElem?_cons_zero, Option.some.injEq] at ho; subst ho
          exact ⟨⟨_, rfl⟩, fun a w hk hb hs => wp_call14 _ rfl ((slot_eval a 120).trans (hs 7 (by decide))) N2 (RR2.below hb) fun s w' hs hb => ⟨_, rfl, ⟨s, rfl, hs⟩, hb⟩⟩
        · simp only [List.getElem?_toArray, List.getElem?_cons_succ, List.getElem?_cons_zero, Option.some.injEq] at ho; subst ho
          refine ⟨⟨_, rfl⟩, fun a w hk hb hs => ?_⟩
          obtain ⟨s, e, h6⟩ := hs 6 (by decide)
          obtain ⟨u, e', h8⟩ := hs 8 (by decide)
          exact wp_build34MD _ _ rfl ((slot_eval a 119).trans e) ((slot_eval a 121).trans e') ⟨_, rfl, ⟨s, u, rfl, h6, h8⟩, Below.refl _ _⟩
      · intro a' w' b f vp vq hk hb hg hm hf hp hsp hq hsq
        obtain ⟨s, u, hsq, hs1, hs2⟩ := hsq
        have h17 : slot a' 18 = .map (some b) := hg
        have hM2 : Two6 wc p q (ent 3 Sl.nil Sl.nil Sl.nil s4 s5 Sl.nil) l1 l2 (.map (some b)) w' := ⟨b, s, u, rfl, hm.congr fun k => by
          by_cases k1 : k = q
          · subst k1; rw [if_pos rfl, hq, hsq]
          · rw [if_neg k1]
            by_cases k2 : k = p
            · subst k2; rw [if_pos rfl, hp, show vp = _ from hsp]
            · rw [if_neg k2]; exact hf k k2 k1, hs1, hs2, hb⟩
        rw [hk.eq, List.foldl_cons, List.foldl_cons, List.foldl_cons, List.foldl_cons, List.foldl_cons, List.foldl_cons, List.foldl_cons, List.foldl_cons, List.foldl_cons, List.foldl_cons, List.foldl_cons, List.foldl_nil, h17]
        clear hm hf hp hq hsq hsp hg h17
        simp only [List.setIfInBounds_toArray, List.set_cons_succ, List.set_cons_zero]
        go_wp2_with fail
        go_meet
        case rel => exact hM2
    case rest =>
    obtain ⟨mf, s1, s2, rfl, hMf, hs1, hs2, hbc⟩ := hcut
    have hEd := hEd.below hbc
    have hs4 := hs4.below hbc
    have hs5 := hs5.below hbc
    have HB := HB.trans (hbc.mono HB.size)
    clear hbc
    go_upto_region 19 with fail
    go_cut [19] from 21 to 127 (fun vv wz => TE (ent 3 Sl.nil Sl.nil Sl.nil s4 s5 Sl.nil) wc p vv wz)
    case first =>
     as_aux_lemma =>
      go_wp2_with ((with_reducible refine stopTree ?_ ?_); · exact rfl)
      refine Stop.go (wpList_makeTree (by rfl) (by rfl) ?_)
      intro m x1 lo1 hi1 hm1 hb1
      go_wp2_with ((with_reducible refine stopTree ?_ ?_); · exact rfl)
      refine Stop.go (wpList_load_ent _ (by rfl) (by rfl) _ _ (by rfl) (hEd.below hb1) ?_)
      go_wp2_with ((with_reducible refine stopTree ?_ ?_); · exact rfl)
      refine Stop.go (wpList_insert _ _ _ (by rfl) (by rfl) m p _ _ (by rfl) (by rfl) (by rfl) hm1 rfl ?_)
      intro x2 hm2 ht2
      go_wp2_with fail
      go_meet
      case rel => exact ⟨m, rfl, hm2, hb1.trans (ht2.below lo1)⟩
    case rest =>
    obtain ⟨mb, rfl, hMb, hbc⟩ := hcut
    have hEd := hEd.below hbc
    have hs4 := hs4.below hbc
    have hs5 := hs5.below hbc
    have hMf := hMf.below hbc
    have hs1 := hs1.below hbc
    have hs2 := hs2.below hbc
    have HB := HB.trans (hbc.mono HB.size)
    clear hbc
    go_upto_region 20 with fail
    go_cut [20] from 21 to 133 (fun vv wz => T1 (fun s => ent 3 Sl.nil Sl.nil s Sl.nil Sl.nil Sl.nil) wc p l3 vv wz)
    case first =>
     as_aux_lemma =>
      go_wp2_with ((with_reducible refine stopTree ?_ ?_); · exact rfl)
      refine Stop.go (wpList_makeTree (by rfl) (by rfl) ?_)
      intro m x0 lo1 hi1 hm0 hbx
      have HBx := HB.trans (hbx.mono HB.size)
      go_wp2_with fail
      refine (time14s _ _ _ _ N3 (R3.out.below HBx)).mono ?_
      rintro e x1 ⟨⟨s0, rfl, hs0⟩, hb⟩
      have hm1 := hm0.below hb
      have HBx := HBx.trans (hb.mono HBx.size)
      have hbx := hbx.trans (hb.mono hbx.size)
      clear hb
      go_wp2_with ((with_reducible refine stopTree ?_ ?_); · exact rfl)
      refine Stop.go (wpList_insert _ _ _ (by rfl) (by rfl) m p (.agg (ent 3 Sl.nil Sl.nil s0 Sl.nil Sl.nil Sl.nil)) _ (by rfl) (by rfl) (by rfl) hm1 rfl ?_)
      intro xz hmz htz
      have hs0 := hs0.mapped hm1 htz
      have hbx := hbx.trans (htz.below lo1)
      go_wp2_with fail
      go_meet
      case rel => exact ⟨m, s0, rfl, hmz, hs0, hbx⟩
    case rest =>
    obtain ⟨mt, s3, rfl, hMt, hs3, hbc⟩ := hcut
    have hEd := hEd.below hbc
    have hs4 := hs4.below hbc
    have hs5 := hs5.below hbc
    have hMf := hMf.below hbc
    have hs1 := hs1.below hbc
    have hs2 := hs2.below hbc
    have hMb := hMb.below hbc
    have HB := HB.trans (hbc.mono HB.size)
    clear hbc
    have A1 : AtMD wc mf q s1 s2 := AtMD.hit hMf (if_pos rfl)
    have A2 : AtMD wc mb q s4 Sl.nil := AtMD.under hqs hMb (if_pos rfl) (fun s h => if_neg h) HU.out (Sl.has.nil _) hs5 (by simp) K5 List.Pairwise.nil Pos.nil S5.out P5.out
    have B1 : BnS wc mt q s3 := BnS.under hqs hMt (if_pos rfl) (fun s h => if_neg h) HU.out hs3 K3 S3.out P3.out
    have HBc : Below wc.heap.size wc wc := Below.refl _ _
    clear hMf hMt hMb hEd K1 K2 K3 K4 K5 RR1 RR2
    go_wp2_with fail
    refine (held21 mf mt q s1 s2 s3 l1 l2 l3 _ (A1.later HBc) (B1.later HBc) (hs1.below HBc) (hs2.below HBc) (hs3.below HBc) N1 N2 N3 S1.out S2.out S3.out P3.out).mono ?_
    rintro e y1 ⟨⟨b, rfl, hq⟩, hy⟩
    have HQ : Hid (b = true ↔ News l1 l2 l3) := hq
    have HBc := HBc.trans (hy.mono HBc.size)
    have HBw := HB.trans (HBc.mono HB.size)
    clear hq hy
    go_wp2_with fail
    refine (leq22 _ _ _ _ l1 l3 _ (by omega) (by omega) (R1.out.below HBw) (R3.out.below HBw)).mono ?_
    rintro e y2 ⟨rfl, hy⟩
    have HBc := HBc.trans (hy.mono HBc.size)
    have HBw := HB.trans (HBc.mono HB.size)
    clear hy
    by_cases hx : ∀ x ∈ l1, x.2 ≤ valF l3 x.1
    · rw [decide_eq_true hx]
      obtain rfl : b = false := by cases b with | false => rfl | true => exact absurd ((LE_iff S1.out P3.out).2 hx) (HQ.out.1 rfl).1
      clear hx HQ
      go_wp2_with fail
      refine (held21 mb mt q s4 Sl.nil s3 l4 [] l3 _ (A2.later HBc) (B1.later HBc) (hs4.below HBc) (Sl.has.nil _) (hs3.below HBc) N4 (by simp) N3 S4.out List.Pairwise.nil S3.out P3.out).mono ?_
      rintro e y7 ⟨⟨b, rfl, hq⟩, hy⟩
      obtain rfl : b = false := by cases b with | false => rfl | true => exact absurd (LE.nil P3.out) (hq.1 rfl).2
      have HBc := HBc.trans (hy.mono HBc.size)
      clear hq hy
      go_wp2_with fail
      go_ret
      exact ⟨rfl, HB.trans (HBc.mono HB.size)⟩
    · rw [decide_eq_false hx]
      have HX : Hid (¬ LE l1 l3) := fun h => hx ((LE_iff S1.out P3.out).1 h)
      clear hx
      go_wp2_with fail
      refine (leq22 _ _ _ _ l2 l3 _ (by omega) (by omega) (R2.out.below HBw) (R3.out.below HBw)).mono ?_
      rintro e y3 ⟨rfl, hy⟩
      have HBc := HBc.trans (hy.mono HBc.size)
      clear hy
      by_cases hx : ∀ x ∈ l2, x.2 ≤ valF l3 x.1
      · rw [decide_eq_true hx]
        obtain rfl : b = false := by cases b with | false => rfl | true => exact absurd ((LE_iff S2.out P3.out).2 hx) (HQ.out.1 rfl).2
        clear hx HQ
        go_wp2_with fail
        refine (held21 mb mt q s4 Sl.nil s3 l4 [] l3 _ (A2.later HBc) (B1.later HBc) (hs4.below HBc) (Sl.has.nil _) (hs3.below HBc) N4 (by simp) N3 S4.out List.Pairwise.nil S3.out P3.out).mono ?_
        rintro e y7 ⟨⟨b, rfl, hq⟩, hy⟩
        obtain rfl : b = false := by cases b with | false => rfl | true => exact absurd (LE.nil P3.out) (hq.1 rfl).2
        have HBc := HBc.trans (hy.mono HBc.size)
        clear hq hy
        go_wp2_with fail
        go_ret
        exact ⟨rfl, HB.trans (HBc.mono HB.size)⟩
      · rw [decide_eq_false hx]
        obtain rfl : b = true := HQ.out.2 ⟨HX.out, fun h => hx ((LE_iff S2.out P3.out).1 h)⟩
        clear hx HQ
        go_wp2_with fail
        refine (held21 mb mt q s4 Sl.nil s3 l4 [] l3 _ (A2.later HBc) (B1.later HBc) (hs4.below HBc) (Sl.has.nil _) (hs3.below HBc) N4 (by simp) N3 S4.out List.Pairwise.nil S3.out P3.out).mono ?_
        rintro e y7 ⟨⟨b, rfl, hq⟩, hy⟩
        obtain rfl : b = false := by cases b with | false => rfl | true => exact absurd (LE.nil P3.out) (hq.1 rfl).2
        have HBc := HBc.trans (hy.mono HBc.size)
        clear hq hy
        go_wp2_with fail
        go_ret
        exact ⟨rfl, HB.trans (HBc.mono HB.size)⟩

end Go.Proofs.Qxb6612745a
