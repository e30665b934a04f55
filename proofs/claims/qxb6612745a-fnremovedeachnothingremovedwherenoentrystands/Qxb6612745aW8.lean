/- The walk of FnRemovedEachNothingRemovedWhereNoEntryStands (8). -/
import Derived.Test.Qxb6612745aBy27
import Derived.Test.Qxb6612745aLit
import Derived.Test.Qxb6612745aRemoved
import Derived.Test.Qxb6612745aOps
import Derived.Deep.CutRange
namespace Go.Proofs.Qxb6612745a
open Go.RowKit

/-- A tree of two entries: at p one that is known, at q a file with C over the pairs l (or with R: 'onR'). -/
def Two (W : World) (p q : ByteArray) (Ep : Array Value) (l : List (ByteArray × Int)) (onR : Bool) (v : Value) (w : World) : Prop :=
  ∃ (b : Nat) (s : Sl), v = .map (some b) ∧ Maps w b (fun k => if k = q then some (.agg (entQ onR s)) else if k = p then some (.agg Ep) else none) ∧ s.has w l ∧ Below W.heap.size W w

/-- A tree of one entry. -/
def One1 (W : World) (p : ByteArray) (E : Array Value) (v : Value) (w : World) : Prop := ∃ b : Nat, v = .map (some b) ∧ Maps w b (fun k => if k = p then some (.agg E) else none) ∧ Below W.heap.size W w

/-- A variable that holds a directory's entry with C over lc and R over lr. -/
def Box3 (W : World) (lc lr : List (ByteArray × Int)) (v : Value) (w : World) : Prop :=
  ∃ (b : Nat) (c r : Sl), v = .pointer (some ⟨b, 0, none⟩) ∧ Ent w b (ent 3 c Sl.nil Sl.nil Sl.nil Sl.nil r) ∧ c.has w lc ∧ r.has w lr ∧ Below W.heap.size W w

theorem nil_len (l : List (ByteArray × Int)) : decide (l = []) = ((l.length : Int) == 0) := by
  cases l with
  | nil => rfl
  | cons x l =>
    rw [decide_eq_false (fun h => by cases h)]
    symm
    rw [beq_eq_false_iff_ne]
    simp only [List.length_cons]
    omega

set_option maxRecDepth 100000 in
set_option maxHeartbeats 8000000 in
theorem walk8 (p name : ByteArray) (a1 a2 a3 : Option Addr) (c1 c2 c3 : Nat) (l1 l2 l3 : List (ByteArray × Int)) (w : World)
    (hl1 : l1.length ≤ 9223372036854775807) (hl2 : l2.length ≤ 9223372036854775807) (hl3 : l3.length ≤ 9223372036854775807)
    (hr1 : Row w a1 l1) (hr2 : Row w a2 l2) (hr3 : Row w a3 l3) :
    Calls Try.prog 8 #[.string p, .string name, .slice a1 l1.length c1, .slice a2 l2.length c2, .slice a3 l3.length c3] w fun e w' => e = .returned (.bool true) ∧ Below w.heap.size w w' := by
  have R1 : Hid (Row w a1 l1) := hr1
  have R2 : Hid (Row w a2 l2) := hr2
  have R3 : Hid (Row w a3 l3) := hr3
  clear hr1 hr2 hr3
  go_enter Try.func8, Try.ntmps8
  go_wp2_with fail
  refine (bytes27 p name a1 c1 l1 a2 c2 l2 a3 c3 l3 _ hl1 R1.out hl2 R2.out hl3 R3.out).mono ?_
  rintro e w' ⟨⟨b, rfl⟩, hw⟩
  rw [hw]
  clear hw w'
  cases b with
  | false =>
    go_wp2_with fail
    go_ret
    exact ⟨rfl, Below.refl _ _⟩
  | true =>
    go_wp2_with fail
    all_goals (try (go_ret; exact ⟨rfl, Below.refl _ _⟩))
    have np : (p.size : Int) ≤ 1048576 := by omega
    have nn : (name.size : Int) ≤ 1048576 := by omega
    have m1 : (l1.length : Int) ≤ 4096 := by omega
    have m2 : (l2.length : Int) ≤ 4096 := by omega
    have m3 : (l3.length : Int) ≤ 4096 := by omega
    refine (addElems _ _ _ _ _ hl1 R1.out).mono ?_
    rintro e w' ⟨⟨n1, rfl⟩, hw⟩
    rw [hw]
    clear hw w'
    go_wp2_with fail
    refine (addElems _ _ _ _ _ hl2 R2.out).mono ?_
    rintro e w' ⟨⟨n2, rfl⟩, hw⟩
    rw [hw]
    clear hw w'
    go_wp2_with fail
    refine (addElems _ _ _ _ _ hl3 R3.out).mono ?_
    rintro e w' ⟨⟨n3, rfl⟩, hw⟩
    rw [hw]
    clear hw w'
    by_cases hn3 : 1048576 < n3
    · go_wp2_with fail
      go_ret
      exact ⟨rfl, Below.refl _ _⟩
    have hn3' : decide (1048576 < n3) = false := by simpa using hn3
    go_upto_region 13 with fail
    have HU : Hid (Under p (p ++ { data := #[47] } ++ name)) := ⟨name.data.toList, by simp⟩
    have hqs : (p ++ { data := #[47] } ++ name : ByteArray).size ≤ 9223372036854775807 := by rw [ByteArray.size_append, ByteArray.size_append]; show p.size + 1 + name.size ≤ _; omega
    generalize p ++ { data := #[47] } ++ name = q at HU hqs ⊢
    have HPQ : Hid (q ≠ p) := HU.out.ne
    have M1 : l1.length ≤ 1000000 := by omega
    have M2 : l2.length ≤ 1000000 := by omega
    have M3 : l3.length ≤ 1000000 := by omega
    clear hn3 hn3' m1 m2 m3 np nn hl1 hl2 hl3
    have HB : Below w.heap.size w w := Below.refl _ _
    go_cut [13] from 19 to 75 (fun vv wz => Box3 w l1 l2 vv wz)
    case first =>
     as_aux_lemma =>
      go_wp2_with fail
      refine (time14s _ _ _ _ M1 (R1.out.below HB)).mono ?_
      rintro e x1 ⟨⟨c, rfl, hc⟩, hb1⟩
      have HB1 := HB.trans (hb1.mono HB.size)
      go_wp2_with fail
      refine (time14s _ _ _ _ M2 (R2.out.below HB1)).mono ?_
      rintro e x2 ⟨⟨r, rfl, hr⟩, hb2⟩
      go_wp2_with ((with_reducible refine stopTree ?_ ?_); · exact rfl)
      refine Stop.go (wpList_alloc_ent (by rfl) (by rfl) ?_)
      intro b x3 lo3 hi3 he3 hb3
      go_wp2_with ((with_reducible refine stopTree ?_ ?_); · exact rfl)
      refine Stop.go (wpList_store_ent _ _ (by rfl) (by rfl) _ _ (ent 3 c Sl.nil Sl.nil Sl.nil Sl.nil r) (by rfl) (by rfl) he3 (One.ent ..) ?_)
      intro x4 he4 ht4
      have hb4 := hb3.trans (ht4.below lo3)
      go_wp2_with fail
      go_meet
      case rel => exact ⟨b, c, r, rfl, he4, (hc.below hb2).below hb4, hr.below hb4, (hb1.trans (hb2.mono hb1.size)).trans (hb4.mono (by have := hb1.size; have := hb2.size; omega))⟩
    case rest =>
    obtain ⟨bt, s1, s2, rfl, hEt, hs1, hs2, hbc⟩ := hcut
    have HB := HB.trans (hbc.mono HB.size)
    clear hbc
    go_upto_region 14 with fail
    go_cut [14] from 19 to 75 (fun vv wz => Box3 wc l2 l1 vv wz)
    case first =>
     as_aux_lemma =>
      go_wp2_with fail
      refine (time14s _ _ _ _ M2 (R2.out.below HB)).mono ?_
      rintro e x1 ⟨⟨c, rfl, hc⟩, hb1⟩
      have HB1 := HB.trans (hb1.mono HB.size)
      go_wp2_with fail
      refine (time14s _ _ _ _ M1 (R1.out.below HB1)).mono ?_
      rintro e x2 ⟨⟨r, rfl, hr⟩, hb2⟩
      go_wp2_with ((with_reducible refine stopTree ?_ ?_); · exact rfl)
      refine Stop.go (wpList_alloc_ent (by rfl) (by rfl) ?_)
      intro b x3 lo3 hi3 he3 hb3
      go_wp2_with ((with_reducible refine stopTree ?_ ?_); · exact rfl)
      refine Stop.go (wpList_store_ent _ _ (by rfl) (by rfl) _ _ (ent 3 c Sl.nil Sl.nil Sl.nil Sl.nil r) (by rfl) (by rfl) he3 (One.ent ..) ?_)
      intro x4 he4 ht4
      have hb4 := hb3.trans (ht4.below lo3)
      go_wp2_with fail
      go_meet
      case rel => exact ⟨b, c, r, rfl, he4, (hc.below hb2).below hb4, hr.below hb4, (hb1.trans (hb2.mono hb1.size)).trans (hb4.mono (by have := hb1.size; have := hb2.size; omega))⟩
    case rest =>
    obtain ⟨bu, s3, s4, rfl, hEu, hs3, hs4, hbc⟩ := hcut
    have hEt := hEt.below hbc
    have hs1 := hs1.below hbc
    have hs2 := hs2.below hbc
    have HB := HB.trans (hbc.mono HB.size)
    clear hbc
    go_upto_region 15 with fail
    go_cut [15] from 19 to 83 (fun vv wz => One1 wc p (ent 3 s1 Sl.nil Sl.nil Sl.nil Sl.nil s2) vv wz)
    case first =>
     as_aux_lemma =>
      go_wp2_with ((with_reducible refine stopTree ?_ ?_); · exact rfl)
      refine Stop.go (wpList_makeTree (by rfl) (by rfl) ?_)
      intro m x1 lo1 hi1 hm1 hb1
      go_wp2_with ((with_reducible refine stopTree ?_ ?_); · exact rfl)
      refine Stop.go (wpList_load_ent _ (by rfl) (by rfl) _ _ (by rfl) (hEt.below hb1) ?_)
      go_wp2_with ((with_reducible refine stopTree ?_ ?_); · exact rfl)
      refine Stop.go (wpList_insert _ _ _ (by rfl) (by rfl) m p _ _ (by rfl) (by rfl) (by rfl) hm1 rfl ?_)
      intro x2 hm2 ht2
      go_wp2_with fail
      go_meet
      case rel => exact ⟨m, rfl, hm2, hb1.trans (ht2.below lo1)⟩
    case rest =>
    obtain ⟨mt, rfl, hMt, hbc⟩ := hcut
    have hEt := hEt.below hbc
    have hs1 := hs1.below hbc
    have hs2 := hs2.below hbc
    have hEu := hEu.below hbc
    have hs3 := hs3.below hbc
    have hs4 := hs4.below hbc
    have HB := HB.trans (hbc.mono HB.size)
    clear hbc
    go_upto_region 16 with fail
    go_cut [16] from 19 to 83 (fun vv wz => One1 wc p (ent 3 s3 Sl.nil Sl.nil Sl.nil Sl.nil s4) vv wz)
    case first =>
     as_aux_lemma =>
      go_wp2_with ((with_reducible refine stopTree ?_ ?_); · exact rfl)
      refine Stop.go (wpList_makeTree (by rfl) (by rfl) ?_)
      intro m x1 lo1 hi1 hm1 hb1
      go_wp2_with ((with_reducible refine stopTree ?_ ?_); · exact rfl)
      refine Stop.go (wpList_load_ent _ (by rfl) (by rfl) _ _ (by rfl) (hEu.below hb1) ?_)
      go_wp2_with ((with_reducible refine stopTree ?_ ?_); · exact rfl)
      refine Stop.go (wpList_insert _ _ _ (by rfl) (by rfl) m p _ _ (by rfl) (by rfl) (by rfl) hm1 rfl ?_)
      intro x2 hm2 ht2
      go_wp2_with fail
      go_meet
      case rel => exact ⟨m, rfl, hm2, hb1.trans (ht2.below lo1)⟩
    case rest =>
    obtain ⟨mu, rfl, hMu, hbc⟩ := hcut
    have hEt := hEt.below hbc
    have hs1 := hs1.below hbc
    have hs2 := hs2.below hbc
    have hEu := hEu.below hbc
    have hs3 := hs3.below hbc
    have hs4 := hs4.below hbc
    have hMt := hMt.below hbc
    have HB := HB.trans (hbc.mono HB.size)
    clear hbc
    go_upto_region 17 with fail
    have RR := R3.out.below HB
    go_cut [17] from 84 to 91 (fun vv wz => Two wc p q (ent 3 s1 Sl.nil Sl.nil Sl.nil Sl.nil s2) l3 false vv wz)
    case first =>
     as_aux_lemma =>
      clear hs1 hs2 hEu hs3 hs4 hMt hMu
      refine wp_region_two (ds := [84, 85, 86, 87, 88, 89, 90, 91, 17]) (p := p) (q := q) (S := S2 p q (ent 3 s1 Sl.nil Sl.nil Sl.nil Sl.nil s2) (.slice a3 l3.length c3) l3 false) (iM := 0) (iP := 3) (iQ := 8) (iX := 9) (iA := 10) (iE := 2) (iF := 7) (deps := deps2)
        (by kernel_rfl) (by kernel_rfl) (slotsOk_spec (by kernel_rfl)) (by kernel_rfl) (stays2 _ _ _ _ _ _) HPQ.out ⟨by decide, by decide, by decide, by decide, by decide⟩ (by decide) (by decide) (by decide)
        ⟨_, _, rfl, rfl, rfl⟩ ?_ ?_
        ⟨_, _, _, rfl, rfl, rfl, rfl, by decide⟩ ⟨_, _, _, rfl, rfl, rfl, rfl, by decide, by decide⟩ (fun _ _ => trivial) ?_ rfl ?_
      · exact ⟨_, _, _, _, rfl, rfl, rfl, rfl, rfl, fun a w hk hs => (slot_eval a 85).trans (hs 1 (by decide)), by decide, by decide⟩
      · exact ⟨_, _, _, _, rfl, rfl, rfl, rfl, rfl, fun a w hk hs => (slot_eval a 87).trans (hs 4 (by decide)), by decide, by decide⟩
      · intro i o h1 h2 h3 h4 h5 ho
        have hi := lt_of_get ho
        have hi : i < 11 := hi
        obtain rfl | rfl | rfl | rfl | rfl | rfl : i = 1 ∨ i = 2 ∨ i = 4 ∨ i = 5 ∨ i = 6 ∨ i = 7 := by omega
        · simp only [List.getElem?_toArray, List.getElem?_cons_succ, List.getElem?_cons_zero, Option.some.injEq] at ho; subst ho
          exact ⟨⟨_, rfl⟩, fun a w hk hb hs => wp_move _ rfl ⟨_, rfl, (slot_eval a 0).trans (hk.slot (by decide)), Below.refl _ _⟩⟩
        · simp only [List.getElem?_toArray, List.getElem?_cons_succ, List.getElem?_cons_zero, Option.some.injEq] at ho; subst ho
          exact ⟨⟨_, rfl⟩, fun a w hk hb hs => wp_loadEnt _ rfl ((slot_eval a 13).trans (hk.slot (by decide))) (hEt.below hb) ⟨_, rfl, rfl, Below.refl _ _⟩⟩
        · simp only [List.getElem?_toArray, List.getElem?_cons_succ, List.getElem?_cons_zero, Option.some.injEq] at ho; subst ho
          exact ⟨⟨_, rfl⟩, fun a w hk hb hs => wp_move _ rfl ⟨_, rfl, (slot_eval a 12).trans (hk.slot (by decide)), Below.refl _ _⟩⟩
        · simp only [List.getElem?_toArray, List.getElem?_cons_succ, List.getElem?_cons_zero, Option.some.injEq] at ho; subst ho
          exact ⟨⟨_, rfl⟩, fun a w hk hb hs => wp_move _ rfl ⟨_, rfl, (slot_eval a 4).trans (hk.slot (by decide)), Below.refl _ _⟩⟩
        · simp only [List.getElem?_toArray, List.getElem?_cons_succ, List.getElem?_cons_zero, Option.some.injEq] at ho; subst ho
          exact ⟨⟨_, rfl⟩, fun a w hk hb hs => wp_call14 _ rfl ((slot_eval a 88).trans (hs 5 (by decide))) M3 (RR.below hb) fun s w' hs hb => ⟨_, rfl, ⟨s, rfl, hs⟩, hb⟩⟩
        · simp only [List.getElem?_toArray, List.getElem?_cons_succ, List.getElem?_cons_zero, Option.some.injEq] at ho; subst ho
          refine ⟨⟨_, rfl⟩, fun a w hk hb hs => ?_⟩
          obtain ⟨s, e, hs⟩ := hs 6 (by decide)
          exact wp_build34C _ rfl ((slot_eval a 89).trans e) ⟨_, rfl, ⟨s, rfl, hs⟩, Below.refl _ _⟩
      · intro a' w' b f vp vq hk hb hg hm hf hp hsp hq hsq
        obtain ⟨s5, hsq, hs5⟩ := hsq
        have h17 : slot a' 17 = .map (some b) := hg
        have hM2 : Two wc p q (ent 3 s1 Sl.nil Sl.nil Sl.nil Sl.nil s2) l3 false (.map (some b)) w' := ⟨b, s5, rfl, hm.congr fun k => by
          by_cases k1 : k = q
          · subst k1; rw [if_pos rfl, hq, hsq]
          · rw [if_neg k1]
            by_cases k2 : k = p
            · subst k2; rw [if_pos rfl, hp, show vp = _ from hsp]
            · rw [if_neg k2]; exact hf k k2 k1, hs5, hb⟩
        rw [hk.eq, List.foldl_cons, List.foldl_cons, List.foldl_cons, List.foldl_cons, List.foldl_cons, List.foldl_cons, List.foldl_cons, List.foldl_cons, List.foldl_cons, List.foldl_nil, h17]
        clear hm hf hp hq hsq hsp hg h17
        simp only [List.setIfInBounds_toArray, List.set_cons_succ, List.set_cons_zero]
        go_wp2_with fail
        go_meet
        case rel => exact hM2
    case rest =>
    obtain ⟨mtq, s5, rfl, hMtq, hs5, hbc⟩ := hcut
    have hEt := hEt.below hbc
    have hs1 := hs1.below hbc
    have hs2 := hs2.below hbc
    have hEu := hEu.below hbc
    have hs3 := hs3.below hbc
    have hs4 := hs4.below hbc
    have hMt := hMt.below hbc
    have hMu := hMu.below hbc
    have HB := HB.trans (hbc.mono HB.size)
    clear hbc
    go_upto_region 18 with fail
    have RR := R3.out.below HB
    go_cut [18] from 84 to 99 (fun vv wz => Two wc p q (ent 3 s3 Sl.nil Sl.nil Sl.nil Sl.nil s4) l3 true vv wz)
    case first =>
     as_aux_lemma =>
      clear hEt hs1 hs2 hs3 hs4 hMt hMu hMtq hs5
      refine wp_region_two (ds := [92, 93, 94, 95, 96, 97, 98, 99, 18]) (p := p) (q := q) (S := S2 p q (ent 3 s3 Sl.nil Sl.nil Sl.nil Sl.nil s4) (.slice a3 l3.length c3) l3 true) (iM := 0) (iP := 3) (iQ := 8) (iX := 9) (iA := 10) (iE := 2) (iF := 7) (deps := deps2)
        (by kernel_rfl) (by kernel_rfl) (slotsOk_spec (by kernel_rfl)) (by kernel_rfl) (stays2 _ _ _ _ _ _) HPQ.out ⟨by decide, by decide, by decide, by decide, by decide⟩ (by decide) (by decide) (by decide)
        ⟨_, _, rfl, rfl, rfl⟩ ?_ ?_
        ⟨_, _, _, rfl, rfl, rfl, rfl, by decide⟩ ⟨_, _, _, rfl, rfl, rfl, rfl, by decide, by decide⟩ (fun _ _ => trivial) ?_ rfl ?_
      · exact ⟨_, _, _, _, rfl, rfl, rfl, rfl, rfl, fun a w hk hs => (slot_eval a 93).trans (hs 1 (by decide)), by decide, by decide⟩
      · exact ⟨_, _, _, _, rfl, rfl, rfl, rfl, rfl, fun a w hk hs => (slot_eval a 95).trans (hs 4 (by decide)), by decide, by decide⟩
      · intro i o h1 h2 h3 h4 h5 ho
        have hi := lt_of_get ho
        have hi : i < 11 := hi
        obtain rfl | rfl | rfl | rfl | rfl | rfl : i = 1 ∨ i = 2 ∨ i = 4 ∨ i = 5 ∨ i = 6 ∨ i = 7 := by omega
        · simp only [List.getElem?_toArray, List.getElem?_cons_succ, List.getElem?_cons_zero, Option.some.injEq] at ho; subst ho
          exact ⟨⟨_, rfl⟩, fun a w hk hb hs => wp_move _ rfl ⟨_, rfl, (slot_eval a 0).trans (hk.slot (by decide)), Below.refl _ _⟩⟩
        · simp only [List.getElem?_toArray, List.getElem?_cons_succ, List.getElem?_cons_zero, Option.some.injEq] at ho; subst ho
          exact ⟨⟨_, rfl⟩, fun a w hk hb hs => wp_loadEnt _ rfl ((slot_eval a 14).trans (hk.slot (by decide))) (hEu.below hb) ⟨_, rfl, rfl, Below.refl _ _⟩⟩
        · simp only [List.getElem?_toArray, List.getElem?_cons_succ, List.getElem?_cons_zero, Option.some.injEq] at ho; subst ho
          exact ⟨⟨_, rfl⟩, fun a w hk hb hs => wp_move _ rfl ⟨_, rfl, (slot_eval a 12).trans (hk.slot (by decide)), Below.refl _ _⟩⟩
        · simp only [List.getElem?_toArray, List.getElem?_cons_succ, List.getElem?_cons_zero, Option.some.injEq] at ho; subst ho
          exact ⟨⟨_, rfl⟩, fun a w hk hb hs => wp_move _ rfl ⟨_, rfl, (slot_eval a 4).trans (hk.slot (by decide)), Below.refl _ _⟩⟩
        · simp only [List.getElem?_toArray, List.getElem?_cons_succ, List.getElem?_cons_zero, Option.some.injEq] at ho; subst ho
          exact ⟨⟨_, rfl⟩, fun a w hk hb hs => wp_call14 _ rfl ((slot_eval a 96).trans (hs 5 (by decide))) M3 (RR.below hb) fun s w' hs hb => ⟨_, rfl, ⟨s, rfl, hs⟩, hb⟩⟩
        · simp only [List.getElem?_toArray, List.getElem?_cons_succ, List.getElem?_cons_zero, Option.some.injEq] at ho; subst ho
          refine ⟨⟨_, rfl⟩, fun a w hk hb hs => ?_⟩
          obtain ⟨s, e, hs⟩ := hs 6 (by decide)
          exact wp_build34R _ rfl ((slot_eval a 97).trans e) ⟨_, rfl, ⟨s, rfl, hs⟩, Below.refl _ _⟩
      · intro a' w' b f vp vq hk hb hg hm hf hp hsp hq hsq
        obtain ⟨s6, hsq, hs6⟩ := hsq
        have h17 : slot a' 18 = .map (some b) := hg
        have hM2 : Two wc p q (ent 3 s3 Sl.nil Sl.nil Sl.nil Sl.nil s4) l3 true (.map (some b)) w' := ⟨b, s6, rfl, hm.congr fun k => by
          by_cases k1 : k = q
          · subst k1; rw [if_pos rfl, hq, hsq]
          · rw [if_neg k1]
            by_cases k2 : k = p
            · subst k2; rw [if_pos rfl, hp, show vp = _ from hsp]
            · rw [if_neg k2]; exact hf k k2 k1, hs6, hb⟩
        rw [hk.eq, List.foldl_cons, List.foldl_cons, List.foldl_cons, List.foldl_cons, List.foldl_cons, List.foldl_cons, List.foldl_cons, List.foldl_cons, List.foldl_cons, List.foldl_nil, h17]
        clear hm hf hp hq hsq hsp hg h17
        simp only [List.setIfInBounds_toArray, List.set_cons_succ, List.set_cons_zero]
        go_wp2_with fail
        go_meet
        case rel => exact hM2
    case rest =>
    obtain ⟨muq, s6, rfl, hMuq, hs6, hbc⟩ := hcut
    have hEt := hEt.below hbc
    have hs1 := hs1.below hbc
    have hs2 := hs2.below hbc
    have hEu := hEu.below hbc
    have hs3 := hs3.below hbc
    have hs4 := hs4.below hbc
    have hMt := hMt.below hbc
    have hMu := hMu.below hbc
    have hMtq := hMtq.below hbc
    have hs5 := hs5.below hbc
    have HB := HB.trans (hbc.mono HB.size)
    clear hbc
    have A1 : AtCR wc mt q Sl.nil Sl.nil := AtCR.under hqs hMt (if_pos rfl) (fun s h => if_neg h) HU.out
    have A2 : AtCR wc mu q Sl.nil Sl.nil := AtCR.under hqs hMu (if_pos rfl) (fun s h => if_neg h) HU.out
    have A3 : AtCR wc mtq q s5 Sl.nil := AtCR.hit hMtq (show _ = some (Value.agg (ent 1 s5 Sl.nil Sl.nil Sl.nil Sl.nil Sl.nil)) from if_pos rfl)
    have A4 : AtCR wc muq q Sl.nil s6 := AtCR.hit hMuq (show _ = some (Value.agg (ent 1 Sl.nil Sl.nil Sl.nil Sl.nil Sl.nil s6)) from if_pos rfl)
    clear hMt hMu hMtq hMuq hEt hEu hs1 hs2 hs3 hs4 RR
    have HBc : Below wc.heap.size wc wc := Below.refl _ _
    go_wp2_with fail
    refine (removed25 mt mu q Sl.nil Sl.nil Sl.nil Sl.nil [] [] [] [] _ (A1.later HBc) (A2.later HBc) (Sl.has.nil _) (Sl.has.nil _) (Sl.has.nil _) (Sl.has.nil _) (by simp) (by simp)).mono ?_
    rintro e y1 ⟨rfl, hy1⟩
    rw [show decide (([] : List (ByteArray × Int)) = [] ∧ ([] : List (ByteArray × Int)) = []) = true from rfl]
    have HBc := HBc.trans (hy1.mono HBc.size)
    clear hy1
    go_wp2_with fail
    refine (removed25 mtq mu q s5 Sl.nil Sl.nil Sl.nil l3 [] [] [] _ (A3.later HBc) (A2.later HBc) (hs5.below HBc) (Sl.has.nil _) (Sl.has.nil _) (Sl.has.nil _) (by simp) (by simp)).mono ?_
    rintro e y2 ⟨rfl, hy2⟩
    have DE : decide (([] : List (ByteArray × Int)) = [] ∧ [] = l3) = decide ((l3.length : Int) = 0) := by
      cases l3 with
      | nil => rfl
      | cons x l =>
        have : ((x :: l).length : Int) ≠ 0 := by simp only [List.length_cons]; omega
        rw [decide_eq_false this, decide_eq_false fun h => by cases h.2]
    rw [DE]
    clear DE
    have HBc := HBc.trans (hy2.mono HBc.size)
    clear hy2
    go_wp2_with fail
    · refine (removed25 mtq muq q s5 Sl.nil Sl.nil s6 l3 [] [] l3 _ (A3.later HBc) (A4.later HBc) (hs5.below HBc) (Sl.has.nil _) (Sl.has.nil _) (hs6.below HBc) (by simp) M3).mono ?_
      rintro e y3 ⟨rfl, hy3⟩
      rw [show decide (([] : List (ByteArray × Int)) = [] ∧ l3 = l3) = true from decide_eq_true ⟨rfl, rfl⟩]
      have HBc := HBc.trans (hy3.mono HBc.size)
      go_wp2_with fail
      go_ret
      exact ⟨rfl, HB.trans (HBc.mono HB.size)⟩
    · rename_i hh
      exact absurd (nil_len l3) hh

end Go.Proofs.Qxb6612745a
