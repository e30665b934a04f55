/- The walk of FnMakeEagerOwesEachPeerTheListOfItsOwnCall (4). -/
import Derived.Test.Qxb6612866aTurn
namespace Go.Proofs.Qxb6612866a
open Go.RowKit

/-- A clone that was handed back: its row, its place, and that it is a row of its own. -/
theorem cloned_own {B gn : Nat} {l u : List Int} {a : Option Addr} {wr v1 : World} {e : Ending} (h : Cloned wr.heap.size 3 a u v1 e) (hr : Row wr a u) (hB : B ≤ wr.heap.size) (hn : Row wr (some ⟨gn, 0, none⟩) l) :
    ∃ au cu, e = .returned (.slice au u.length cu) ∧ Row v1 au u ∧ (∀ x, au = some x → wr.heap.size ≤ x.block ∧ x.block < v1.heap.size) ∧ Own B gn l au u v1 := by
  rcases h with ⟨ha3, rfl⟩ | ⟨_, g, cap, rfl, h1, h2, h3⟩
  · have : u = [] := by rw [ha3] at hr; exact hr.none
    exact ⟨none, 0, by rw [this]; rfl, by rw [this]; exact Row.nil _ _, (fun x hx => by cases hx), (fun x hx => by cases hx)⟩
  · refine ⟨_, cap, rfl, h2.row, fun x hx => by cases hx; exact ⟨h1, h2.lt⟩, fun x hx => ?_⟩
    cases hx
    refine ⟨g, cap, rfl, by omega, ?_, h3, h2⟩
    by_cases hl : l = []
    · exact Or.inl hl
    · refine Or.inr ?_
      have := hn.lt0 (by cases l with
        | nil => exact absurd rfl hl
        | cons x l => simp)
      omega

theorem St3.row {B bn gn cn : Nat} {l : List Int} {au : Option Addr} {cu : Nat} {u : List Int} {P : Int → Prop} {n : Nat} {D : Int → Option (List Int)} {K : Option Nat} {w : World} (h : St3 B bn gn cn l au cu u P n D K w) : Row w (some ⟨gn, 0, none⟩) l := by
  obtain ⟨lz, ow, F, f, h1, h2, h3, _⟩ := h
  exact h3

/-- While the list is being changed in place. -/
def Chg (B bn gn cn : Nat) (l : List Int) (au : Option Addr) (cu : Nat) (P : Int → Prop) (p : Int) (op : Bool) (u1 : List Int) (w : World) : Prop :=
  ∃ u' : List Int, u'.length = u1.length ∧ Af1 B bn gn cn l au cu u' P p op u1 w ∧ Own B gn l au u' w

theorem Chg.at {B bn gn cn : Nat} {l : List Int} {au : Option Addr} {cu : Nat} {P : Int → Prop} {p : Int} {op : Bool} {u1 : List Int} {w : World} (h : Chg B bn gn cn l au cu P p op u1 w) {k : Nat} (hk : k < u1.length) :
    ∃ g v, au = some ⟨g, 0, none⟩ ∧ B ≤ g ∧ w.cell? ⟨g, k, none⟩ = some (.int .i64 v) ∧ w.frozen? ⟨g, k, none⟩ = false ∧ ∀ z, Chg B bn gn cn l au cu P p op u1 (w.setCell ⟨g, k, none⟩ (.int .i64 z)) := by
  obtain ⟨u', h1, h2, h3⟩ := h
  have hk' : k < u'.length := by omega
  cases au with
  | none =>
    obtain ⟨lz, ow, F, f, _, _, _, _, h5, _⟩ := h2
    obtain ⟨_, _, e, _⟩ := h5 k hk'
    cases e
  | some x =>
    obtain ⟨g, n, rfl, q1, q2, q3, q4⟩ := h3 x rfl
    refine ⟨g, at_ u' k, rfl, q1, ?_, (q4.cells k (by omega)).2 k, fun z => ?_⟩
    · obtain ⟨b, off, e, c0⟩ := q4.row k hk'
      cases e
      simpa using c0
    · obtain ⟨r1, r2⟩ := St3.write h2 h3 rfl hk' z rfl
      exact ⟨_, by rw [List.length_set]; exact h1, r1, r2⟩

set_option maxRecDepth 100000 in
set_option maxHeartbeats 8000000 in
theorem walk4 (p q : Int) (a1 a2 a3 a4 : Option Addr) (c1 c2 c3 c4 : Nat) (l1 l2 l3 l4 : List Int) (w : World) (hl1 : l1.length ≤ 9223372036854775807) (hl2 : l2.length ≤ 9223372036854775807) (hl3 : l3.length ≤ 9223372036854775807) (hl4 : l4.length ≤ 9223372036854775807)
    (hr1 : Row w a1 l1) (hr2 : Row w a2 l2) (hr3 : Row w a3 l3) (hr4 : Row w a4 l4) :
    Calls Try.prog 4 #[.slice a1 l1.length c1, .slice a2 l2.length c2, .slice a3 l3.length c3, .slice a4 l4.length c4, .int .i64 p, .int .i64 q] w fun e w' => e = .returned (.bool true) ∧ Below w.heap.size w w' := by
  have R1 : Hid (Row w a1 l1) := hr1
  have R2 : Hid (Row w a2 l2) := hr2
  have R3 : Hid (Row w a3 l3) := hr3
  have R4 : Hid (Row w a4 l4) := hr4
  clear hr1 hr2 hr3 hr4
  go_enter Try.func4, Try.ntmps4
  go_wp2_with fail
  refine (bytes19 p q a1 a2 a3 a4 c1 c2 c3 c4 l1 l2 l3 l4 _ hl1 hl2 hl3 hl4).mono ?_
  rintro e w' ⟨⟨b, rfl⟩, hw⟩
  rw [hw]
  clear hw w'
  cases b with
  | false =>
    go_wp2_with fail
    go_ret
    exact ⟨rfl, Below.refl _ _⟩
  | true =>
    go_wp2_with fail
    all_goals (try (go_ret; exact ⟨rfl, Below.refl _ _⟩))
    have M1 : l1.length ≤ 65536 := by omega
    have M2 : l2.length ≤ 65536 := by omega
    have M3 : l3.length ≤ 65536 := by omega
    have M4 : l4.length ≤ 65536 := by omega
    refine (asc6 _ _ _ _ hl1 R1.out).mono ?_
    rintro e z1 ⟨⟨b, rfl, hq⟩, hb1⟩
    cases b with
    | false =>
      clear hq
      go_wp2_with fail
      go_ret
      exact ⟨rfl, hb1⟩
    | true =>
    have HA : Hid (Asc l1) := hq.1 rfl
    clear hq
    go_wp2_with fail
    refine (toIDs8 _ _ _ _ (by omega) (R1.out.below hb1)).mono ?_
    rintro e z2 ⟨⟨g0, c0, rfl, hg0, hfl0, _⟩, hb2⟩
    have hb2 := hb1.trans (hb2.mono hb1.size)
    go_wp2_with fail
    refine (znew7 _ g0 c0 l1 _ (by omega) hfl0.row).mono ?_
    rintro e z3 ⟨⟨bn, rfl, hnew⟩, hb3⟩
    have hb3 := hb2.trans (hb3.mono hb2.size)
    have HNew : Hid (NewNd z2 l1 bn z3) := hnew
    clear hnew hfl0
    go_wp2_with fail
    obtain ⟨gn, cn, q1, q2, q3, q4, q5⟩ := HNew.out
    have hO : Off (some ⟨gn, 0, none⟩) bn := fun x hx => by cases hx; exact q3
    have HS : Hid (St1 w.heap.size bn gn cn l1 (l2.take 0) z3) := ⟨_, _, q5, Or.inl ⟨rfl, _, rfl⟩, q4, (Marks.start l1).congr (by simp)⟩
    have hBn : w.heap.size ≤ bn := by have := hb2.size; omega
    clear HNew q1 q2 q3 q4 q5
    go_loopw [81] (fun i wr => ∃ k : Nat, k ≤ l2.length ∧ i = .int .i64 k ∧ Hid (St1 w.heap.size bn gn cn l1 (l2.take k) wr) ∧ Below w.heap.size w wr) (fun i _ => l2.length - (intOf i).toNat)
    case atStart => exact ⟨0, by omega, rfl, HS, hb3⟩
    case round =>
      clear HS hb3
      obtain ⟨k, hk, rfl, HS, hb⟩ := hrel
      by_cases hlt : k < l2.length
      · obtain ⟨b, off, rfl, c0⟩ := (R2.out.below hb) k hlt
        have i1 : (0 : Int) ≤ (k : Int) := by omega
        have i2 : (k : Int) < (l2.length : Int) := by omega
        go_wp2_with fail
        obtain ⟨lz, F, s1, s2, s3, s4⟩ := HS.out
        refine (setLazy9 w.heap.size bn _ cn lz _ _ l1 F (at_ l2 k) true wr hBn hO s1 s3 HA.out (by omega) s4.1 s2).mono ?_
        rintro e w1 ⟨he, hb1', lz1, F1, t1, t2, t3, t4, _⟩
        obtain rfl : e = .returned (.tuple #[]) := he
        have HS1 : Hid (St1 w.heap.size bn gn cn l1 (l2.take (k + 1)) w1) := by
          exact ⟨lz1, F1, t2, t3, t4, (s4.setF HA.out t1).congr (mem_take hlt)⟩
        clear s1 s2 s3 s4 t1 t2 t3 t4
        go_wp2_with fail
        go_roundw
        case rel => exact ⟨k + 1, by omega, by go_num, HS1, hb.trans hb1'⟩
        case measure => simp [intOf]; omega
      · have hk' : k = l2.length := by omega
        have HS2 : Hid (St1 w.heap.size bn gn cn l1 l2 wr) := by have := HS.out; rw [List.take_of_length_le (by omega)] at this; exact this
        clear HS hk'
        go_wp2_with fail
        refine (clone11 _ _ _ _ (by omega) (R3.out.below hb)).mono ?_
        rintro e v1 ⟨hcl, hbv⟩
        obtain ⟨au, cu, rfl, hau, hau2, hown⟩ := cloned_own (B := w.heap.size) hcl (R3.out.below hb) hb.size HS2.out.st3.row
        clear hcl
        go_wp2_with fail
        refine (unStT w.heap.size bn gn cn l1 none 0 [] (· ∈ l2) 0 (fun _ => none) au cu l3 wr v1 hBn (hO _ rfl) HS2.out.st3 hbv hau hau2).mono ?_
        rintro e v2 ⟨he, hT, hTu, h3⟩
        obtain rfl : e = .returned (.tuple #[]) := he
        have HS3 : Hid (St3 w.heap.size bn gn cn l1 au cu l3 (· ∈ l2) 0 (fun _ => none) none v2 ∧ Own w.heap.size gn l1 au l3 v2) := ⟨h3, hown.of_block fun x hx => hTu.block _ (fun e => by have := (hau2 x hx).1; have := HS2.out.st3.lt; omega)⟩
        have HB2 : Hid (Below w.heap.size w v2) := (hb.trans (hbv.mono hb.size)).trans hT
        obtain ⟨op, hop⟩ := Owes.exists l1 (· ∈ l2) p l3
        have HOp : Hid (Owes op l1 (· ∈ l2) p l3) := hop
        clear h3 hT hTu hown hau hau2 HS2 hb hbv hop
        go_wp2_with fail
        refine (eager1 w.heap.size bn gn cn l1 au cu l3 (· ∈ l2) p op _ hBn (hO _ rfl) HA.out (by omega) (by omega) HOp.out HS3.out.1 HS3.out.2).mono ?_
        rintro e v3 ⟨he, hb3', h1, h2⟩
        obtain rfl : e = .returned (.tuple #[]) := he
        have HC : Hid (Chg w.heap.size bn gn cn l1 au cu (· ∈ l2) p op l3 v3) := ⟨l3, rfl, h1, h2⟩
        have HB3 : Hid (Below w.heap.size w v3) := HB2.out.trans hb3'
        clear h1 h2 hb3' HS3 HB2
        go_wp2_with fail
        go_loopw [99] (fun i wr => ∃ k : Nat, k ≤ l3.length ∧ i = .int .i64 k ∧ Hid (Chg w.heap.size bn gn cn l1 au cu (· ∈ l2) p op l3 wr) ∧ Hid (Below w.heap.size w wr)) (fun i _ => l3.length - (intOf i).toNat)
        case atStart => exact ⟨0, by omega, rfl, HC, HB3⟩
        case round =>
          clear HC HB3
          obtain ⟨k, hk, rfl, HC, HB3⟩ := hrel
          by_cases hlt : k < l3.length
          · obtain ⟨g, v, rfl, hg, d1, d2, hnext⟩ := HC.out.at hlt
            have HN : Hid (∀ z, Chg w.heap.size bn gn cn l1 (some ⟨g, 0, none⟩) cu (· ∈ l2) p op l3 (wr.setCell ⟨g, k, none⟩ (.int .i64 z))) := hnext
            clear hnext HC
            have i1 : (0 : Int) ≤ (k : Int) := by omega
            have i2 : (k : Int) < (l3.length : Int) := by omega
            go_wp2_with fail
            go_roundw
            case rel => exact ⟨k + 1, by omega, by go_num, HN.out _, HB3.out.trans ((setCell_turned _ _ _ _).below hg)⟩
            case measure => simp [intOf]; omega
          · obtain ⟨u', hu', hA1, _⟩ := HC.out
            have HA1 : Hid (Af1 w.heap.size bn gn cn l1 au cu u' (· ∈ l2) p op l3 wr) := hA1
            clear HC hu' hA1
            go_wp2_with fail
            refine (clone11 _ _ _ _ (by omega) (R4.out.below HB3.out)).mono ?_
            rintro e v4 ⟨hcl, hbv⟩
            obtain ⟨au2, cu2, rfl, hau, hau2, _⟩ := cloned_own (B := w.heap.size) hcl (R4.out.below HB3.out) HB3.out.size (St3.row HA1.out)
            clear hcl
            go_wp2_with fail
            refine (unSt w.heap.size bn gn cn l1 au cu u' _ _ _ au2 cu2 l4 wr v4 hBn (hO _ rfl) HA1.out hbv hau hau2).mono ?_
            rintro e v5 ⟨he, hT, h3⟩
            obtain rfl : e = .returned (.tuple #[]) := he
            have HA2 : Hid (Af1 w.heap.size bn gn cn l1 au2 cu2 l4 (· ∈ l2) p op l3 v5) := h3
            have HB4 : Hid (Below w.heap.size w v5) := (HB3.out.trans (hbv.mono HB3.out.size)).trans hT
            obtain ⟨oq, hoq⟩ := Owes.exists l1 (Less (· ∈ l2) p) q l4
            have HOq : Hid (Owes oq l1 (Less (· ∈ l2) p) q l4) := hoq
            clear h3 hT hau hau2 HA1 HB3 hbv hoq
            go_wp2_with fail
            refine (eager2 w.heap.size bn gn cn l1 au2 cu2 l4 (· ∈ l2) p op l3 q oq _ hBn (hO _ rfl) HA.out (by omega) (by omega) HOq.out HA2.out).mono ?_
            rintro e v2 ⟨he, hb3', h1⟩
            obtain rfl : e = .returned (.tuple #[]) := he
            have HS3 : Hid (Af2 w.heap.size bn gn cn l1 au2 cu2 l4 (· ∈ l2) p op l3 q oq v2) := h1
            have HB2 : Hid (Below w.heap.size w v2) := HB4.out.trans hb3'
            clear h1 hb3' HA2 HB4
            go_wp2_with ((with_reducible refine stopN ?_ ?_); · exact rfl)
            refine Stop.go (wpList_make33 _ _ (by rfl) (by rfl) l1.length (by omega) (by rfl) (by rfl) ?_)
            intro gw v3 hgw hFw hbw
            have HM : Hid (Marks l1 (· ∈ l2.take 0) (List.replicate l1.length false)) := (Marks.start l1).congr (by simp)
            go_wp2_with ((with_reducible refine stopN ?_ ?_); · exact rfl)
            have HFw : Hid (Flags v3 gw (List.replicate l1.length false)) := hFw
            clear hFw
            go_loopw [123] (fun i wr => ∃ (k : Nat) (G : List Bool), k ≤ l2.length ∧ i = .int .i64 k ∧ Hid (Flags wr gw G) ∧ Hid (Marks l1 (· ∈ l2.take k) G) ∧ Below v2.heap.size v2 wr) (fun i _ => l2.length - (intOf i).toNat)
            case atStart => exact ⟨0, _, by omega, rfl, HFw, HM, hbw⟩
            case round =>
              clear HFw HM hbw
              obtain ⟨k, G, hk, rfl, HFw, HM, hbw⟩ := hrel
              have HBw : Hid (Below w.heap.size w wr) := HB2.out.trans (hbw.mono HB2.out.size)
              by_cases hlt : k < l2.length
              · obtain ⟨b, off, rfl, c0⟩ := (R2.out.below HBw.out) k hlt
                have i1 : (0 : Int) ≤ (k : Int) := by omega
                have i2 : (k : Int) < (l2.length : Int) := by omega
                go_wp2_with fail
                refine (find12 _ _ l1 (at_ l2 k) _ (by omega) (R1.out.below HBw.out) HA.out).mono ?_
                rintro e t1 ⟨⟨j, he, hFd⟩, hbt⟩
                have HFd : Hid (Found l1 (at_ l2 k) j) := hFd
                have HFt : Hid (Flags t1 gw G) := HFw.out.below hbt
                have hbw1 := hbw.trans (hbt.mono hbw.size)
                clear hFd hbt
                by_cases hd : j < l1.length ∧ at_ l1 j = at_ l2 k
                · rw [decide_eq_true hd] at he
                  subst he
                  have HD : Hid (j < l1.length ∧ at_ l1 j = at_ l2 k) := hd
                  have hj := hd.1
                  clear hd
                  have j1 : (0 : Int) ≤ (j : Int) := by omega
                  have j2 : (j : Int) < (l1.length : Int) := by omega
                  go_wp2_with ((with_reducible refine stopN ?_ ?_); · exact rfl)
                  refine Stop.go (wpList_store1 (v := .bool true) (b := gw) (i := j) sz4 _ _ (by rfl) (by rfl) (by rfl) (by rfl) rfl rfl (u := .bool (bt_ G j)) (by simpa using HFt.out.cell (i := j) (by rw [HM.out.1]; exact hj)) (by simpa using HFt.out.frozen j) ?_)
                  intro t2 ht2
                  have HFt2 : Hid (Flags t2 gw (G.set j true)) := by rw [ht2]; exact HFt.out.set (by rw [HM.out.1]; exact hj) true
                  have hT : Turned t1 t2 gw := by rw [ht2]; exact setCell_turned ..
                  clear ht2
                  go_wp2_with fail
                  go_roundw
                  case rel => exact ⟨k + 1, _, by omega, by go_num, HFt2, ((HM.out.set HA.out HD.out.1 HD.out.2 rfl).congr (mem_take hlt) : Marks l1 (· ∈ l2.take (k + 1)) (G.set j true)), hbw1.trans (hT.below hgw)⟩
                  case measure => simp [intOf]; omega
                · rw [decide_eq_false hd] at he
                  subst he
                  have HD : Hid (¬ (j < l1.length ∧ at_ l1 j = at_ l2 k)) := hd
                  clear hd
                  go_wp2_with fail
                  go_roundw
                  case rel => exact ⟨k + 1, G, by omega, by go_num, HFt, ((HM.out.keep (b := true) HFd.out HD.out HA.out).congr (mem_take hlt) : Marks l1 (· ∈ l2.take (k + 1)) G), hbw1⟩
                  case measure => simp [intOf]; omega
              · have HM2 : Hid (Marks l1 (· ∈ l2) G) := by have := HM.out; rw [List.take_of_length_le (by omega)] at this; exact this
                clear HM
                go_wp2_with fail
                refine (find12 _ _ l1 p _ (by omega) (R1.out.below HBw.out) HA.out).mono ?_
                rintro e t1 ⟨⟨jj1, he, hFd⟩, hbt⟩
                have HFd : Hid (Found l1 p jj1) := hFd
                have HFt : Hid (Flags t1 gw G) := HFw.out.below hbt
                have hbw1 := hbw.trans (hbt.mono hbw.size)
                clear hFd hbt HFw hbw HBw
                generalize hd : decide (jj1 < l1.length ∧ at_ l1 jj1 = p) = fb1 at he
                subst he
                have HD : Hid (decide (jj1 < l1.length ∧ at_ l1 jj1 = p) = fb1) := hd
                clear hd
                go_upto_region 34 with fail
                go_cut [25] from 144 to 155 (fun vv wz => vv = .bool op ∧ wz = t1)
                case first =>
                  cases fb1 with
                  | false =>
                    obtain rfl : op = false := HOp.out.unique ⟨(fun h => by cases h), fun h => absurd h.1 (lazyIn_not HFd.out (of_decide_eq_false HD.out))⟩
                    clear HD HFd HOp HS3
                    go_wp2_with fail
                    go_meet
                    case rel => exact ⟨rfl, rfl⟩
                  | true =>
                    have hj := (of_decide_eq_true HD.out).1
                    have jlo : (0 : Int) ≤ (jj1 : Int) := by omega
                    have jhi : (jj1 : Int) < (l1.length : Int) := by omega
                    have x3 := HFt.out.cell (i := jj1) (by rw [HM2.out.1]; exact hj)
                    have HZ : Hid (LazyIn l1 (· ∈ l2) p ↔ bt_ G jj1 = true) := lazyIn_found HM2.out HFd.out (of_decide_eq_true HD.out)
                    generalize hgj : bt_ G jj1 = gj at x3 HZ
                    clear HD HFd hgj HFt HM2 HS3
                    by_cases h0 : 0 < l3.length
                    · have hd0 : decide (0 < l3.length) = true := decide_eq_true h0
                      have i0 : (0 : Int) < (l3.length : Int) := by omega
                      have hne : l3 ≠ [] := by intro e; rw [e] at h0; exact absurd h0 (by simp)
                      cases gj with
                      | true =>
                        obtain rfl : op = true := HOp.out.unique ⟨fun _ => ⟨HZ.out.2 rfl, hne⟩, fun _ => rfl⟩
                        clear HZ hne HOp
                        go_wp2_with fail
                        go_meet
                        case rel => exact ⟨by simp, rfl⟩
                      | false =>
                        obtain rfl : op = false := HOp.out.unique ⟨(fun h => by cases h), fun h => HZ.out.1 h.1⟩
                        clear HZ hne HOp
                        go_wp2_with fail
                        go_meet
                        case rel => exact ⟨rfl, rfl⟩
                    · have hd0 : decide (0 < l3.length) = false := decide_eq_false h0
                      have hne : l3 = [] := by
                        cases l3 with
                        | nil => rfl
                        | cons x l => exact absurd (by simp) h0
                      have i0 : ¬ (0 : Int) < (l3.length : Int) := by omega
                      obtain rfl : op = false := HOp.out.unique ⟨(fun h => by cases h), fun h => absurd hne h.2⟩
                      clear HZ hne HOp
                      cases gj with
                      | true =>
                        go_wp2_with fail
                        go_meet
                        case rel => exact ⟨by simp, rfl⟩
                      | false =>
                        go_wp2_with fail
                        go_meet
                        case rel => exact ⟨rfl, rfl⟩
                case rest =>
                obtain ⟨rfl, rfl⟩ := hcut
                go_upto_if 156 with fail
                go_cut [25] from 157 to 159 (fun vv wz => vv = .bool op ∧ ∃ G', Hid (Flags wz gw G') ∧ Hid (Marks l1 (Less (· ∈ l2) p) G') ∧ Below v2.heap.size v2 wz)
                case first =>
                  clear HOp HS3
                  cases fb1 with
                  | false =>
                    have HM3 : Hid (Marks l1 (Less (· ∈ l2) p) G) := HM2.out.keep HFd.out (of_decide_eq_false HD.out) HA.out
                    clear HD HFd HM2
                    go_wp2_with fail
                    go_meet
                    case rel => exact ⟨rfl, G, HFt, HM3, hbw1⟩
                  | true =>
                    have hj := (of_decide_eq_true HD.out).1
                    have jlo : (0 : Int) ≤ (jj1 : Int) := by omega
                    have jhi : (jj1 : Int) < (l1.length : Int) := by omega
                    have x4 := HFt.out.frozen jj1
                    have HM3 : Hid (Marks l1 (Less (· ∈ l2) p) (G.set jj1 false)) := HM2.out.set HA.out (of_decide_eq_true HD.out).1 (of_decide_eq_true HD.out).2 rfl
                    clear HD HFd
                    go_wp2_with ((with_reducible refine stopN ?_ ?_); · exact rfl)
                    refine Stop.go (wpList_store1 (v := .bool false) (b := gw) (i := jj1) sz4 _ _ (by rfl) (by rfl) (by rfl) (by rfl) rfl rfl (u := .bool (bt_ G jj1)) (by simpa using HFt.out.cell (i := jj1) (by rw [HM2.out.1]; exact hj)) (by simpa using x4) ?_)
                    intro t2 ht2
                    have HFt2 : Hid (Flags t2 gw (G.set jj1 false)) := by rw [ht2]; exact HFt.out.set (by rw [HM2.out.1]; exact hj) false
                    have hT : Turned wc t2 gw := by rw [ht2]; exact setCell_turned ..
                    clear ht2 HM2
                    go_wp2_with fail
                    go_meet
                    case rel => exact ⟨rfl, _, HFt2, HM3, hbw1.trans (hT.below hgw)⟩
                case rest =>
                clear HFt HM2 HD HFd hbw1
                obtain ⟨rfl, G2, HFw, HM2, hbw⟩ := hcut
                have HBw : Hid (Below w.heap.size w wc) := HB2.out.trans (hbw.mono HB2.out.size)
                go_wp2_with fail
                refine (find12 _ _ l1 q _ (by omega) (R1.out.below HBw.out) HA.out).mono ?_
                rintro e t2 ⟨⟨jj2, he, hFd⟩, hbt⟩
                have HFd : Hid (Found l1 q jj2) := hFd
                have HFt : Hid (Flags t2 gw G2) := HFw.out.below hbt
                have hbw2 := hbw.trans (hbt.mono hbw.size)
                clear hFd hbt HFw hbw HBw
                generalize hd : decide (jj2 < l1.length ∧ at_ l1 jj2 = q) = fb2 at he
                subst he
                have HD : Hid (decide (jj2 < l1.length ∧ at_ l1 jj2 = q) = fb2) := hd
                clear hd
                go_upto_region 38 with fail
                go_cut [28] from 166 to 177 (fun vv wz => vv = .bool oq ∧ wz = t2)
                case first =>
                  cases fb2 with
                  | false =>
                    obtain rfl : oq = false := HOq.out.unique ⟨(fun h => by cases h), fun h => absurd h.1 (lazyIn_not HFd.out (of_decide_eq_false HD.out))⟩
                    clear HD HFd HOq HS3
                    go_wp2_with fail
                    go_meet
                    case rel => exact ⟨rfl, rfl⟩
                  | true =>
                    have hj := (of_decide_eq_true HD.out).1
                    have jlo : (0 : Int) ≤ (jj2 : Int) := by omega
                    have jhi : (jj2 : Int) < (l1.length : Int) := by omega
                    have x3 := HFt.out.cell (i := jj2) (by rw [HM2.out.1]; exact hj)
                    have HZ : Hid (LazyIn l1 (Less (· ∈ l2) p) q ↔ bt_ G2 jj2 = true) := lazyIn_found HM2.out HFd.out (of_decide_eq_true HD.out)
                    generalize hgj : bt_ G2 jj2 = gj at x3 HZ
                    clear HD HFd hgj HFt HM2 HS3
                    by_cases h0 : 0 < l4.length
                    · have hd0 : decide (0 < l4.length) = true := decide_eq_true h0
                      have i0 : (0 : Int) < (l4.length : Int) := by omega
                      have hne : l4 ≠ [] := by intro e; rw [e] at h0; exact absurd h0 (by simp)
                      cases gj with
                      | true =>
                        obtain rfl : oq = true := HOq.out.unique ⟨fun _ => ⟨HZ.out.2 rfl, hne⟩, fun _ => rfl⟩
                        clear HZ hne HOq
                        go_wp2_with fail
                        go_meet
                        case rel => exact ⟨by simp, rfl⟩
                      | false =>
                        obtain rfl : oq = false := HOq.out.unique ⟨(fun h => by cases h), fun h => HZ.out.1 h.1⟩
                        clear HZ hne HOq
                        go_wp2_with fail
                        go_meet
                        case rel => exact ⟨rfl, rfl⟩
                    · have hd0 : decide (0 < l4.length) = false := decide_eq_false h0
                      have hne : l4 = [] := by
                        cases l4 with
                        | nil => rfl
                        | cons x l => exact absurd (by simp) h0
                      have i0 : ¬ (0 : Int) < (l4.length : Int) := by omega
                      obtain rfl : oq = false := HOq.out.unique ⟨(fun h => by cases h), fun h => absurd hne h.2⟩
                      clear HZ hne HOq
                      cases gj with
                      | true =>
                        go_wp2_with fail
                        go_meet
                        case rel => exact ⟨by simp, rfl⟩
                      | false =>
                        go_wp2_with fail
                        go_meet
                        case rel => exact ⟨rfl, rfl⟩
                case rest =>
                obtain ⟨rfl, rfl⟩ := hcut
                go_upto_if 178 with fail
                go_cut [28] from 179 to 181 (fun vv wz => vv = .bool oq ∧ ∃ G', Hid (Flags wz gw G') ∧ Hid (Marks l1 (Less (Less (· ∈ l2) p) q) G') ∧ Below v2.heap.size v2 wz)
                case first =>
                  clear HOq HS3
                  cases fb2 with
                  | false =>
                    have HM3 : Hid (Marks l1 (Less (Less (· ∈ l2) p) q) G2) := HM2.out.keep HFd.out (of_decide_eq_false HD.out) HA.out
                    clear HD HFd HM2
                    go_wp2_with fail
                    go_meet
                    case rel => exact ⟨rfl, G2, HFt, HM3, hbw2⟩
                  | true =>
                    have hj := (of_decide_eq_true HD.out).1
                    have jlo : (0 : Int) ≤ (jj2 : Int) := by omega
                    have jhi : (jj2 : Int) < (l1.length : Int) := by omega
                    have x4 := HFt.out.frozen jj2
                    have HM3 : Hid (Marks l1 (Less (Less (· ∈ l2) p) q) (G2.set jj2 false)) := HM2.out.set HA.out (of_decide_eq_true HD.out).1 (of_decide_eq_true HD.out).2 rfl
                    clear HD HFd
                    go_wp2_with ((with_reducible refine stopN ?_ ?_); · exact rfl)
                    refine Stop.go (wpList_store1 (v := .bool false) (b := gw) (i := jj2) sz4 _ _ (by rfl) (by rfl) (by rfl) (by rfl) rfl rfl (u := .bool (bt_ G2 jj2)) (by simpa using HFt.out.cell (i := jj2) (by rw [HM2.out.1]; exact hj)) (by simpa using x4) ?_)
                    intro t2 ht2
                    have HFt2 : Hid (Flags t2 gw (G2.set jj2 false)) := by rw [ht2]; exact HFt.out.set (by rw [HM2.out.1]; exact hj) false
                    have hT : Turned wc t2 gw := by rw [ht2]; exact setCell_turned ..
                    clear ht2 HM2
                    go_wp2_with fail
                    go_meet
                    case rel => exact ⟨rfl, _, HFt2, HM3, hbw2.trans (hT.below hgw)⟩
                case rest =>
                clear HFt HM2 HD HFd hbw2
                obtain ⟨rfl, G3, HFw, HM2, hbw⟩ := hcut
                have HBw : Hid (Below w.heap.size w wc) := HB2.out.trans (hbw.mono HB2.out.size)
                have HS4 : Hid (Af2 w.heap.size bn gn cn l1 au2 cu2 l4 (· ∈ l2) p op l3 q oq wc) := HS3.out.below hbw
                clear HS3 hbw hgw HB2
                go_wp2_with fail
                refine (lazySt HS4.out).mono ?_
                rintro e w' ⟨⟨lz, rfl, hlz⟩, hw⟩
                rw [hw]
                clear hw w'
                have HL : Hid (LzIs w.heap.size bn gn l1 (Less (Less (· ∈ l2) p) q) lz wc) := hlz
                clear hlz
                go_wp2_with fail
                refine (matchSt w.heap.size bn gn l1 _ lz gw _ G3 _ (by omega) HL.out HFw.out HM2.out).mono ?_
                rintro e x1 ⟨rfl, hb⟩
                have HS5 : Hid (Af2 w.heap.size bn gn cn l1 au2 cu2 l4 (· ∈ l2) p op l3 q oq x1) := HS4.out.below hb
                have HB1 : Hid (Below w.heap.size w x1) := HBw.out.trans (hb.mono HBw.out.size)
                clear HS4 HL HFw HM2 HBw hb
                go_wp2_with fail
                cases op with
                | true =>
                  refine (HS5.out.p1 HOq.out).mono ?_
                  rintro e w' ⟨⟨g, c, rfl, hg⟩, hw⟩
                  rw [hw]
                  clear hw w'
                  have HG : Hid (Row x1 (some ⟨g, 0, none⟩) l3) := hg
                  clear hg
                  go_wp2_with fail
                  refine (equal17 _ _ c _ l3 l3 _ hl3 HG.out (R3.out.below HB1.out)).mono ?_
                  rintro e x2 ⟨he, hb⟩
                  rw [decide_eq_true rfl] at he
                  subst he
                  have HS6 : Hid (Af2 w.heap.size bn gn cn l1 au2 cu2 l4 (· ∈ l2) p true l3 q oq x2) := HS5.out.below hb
                  have HB6 : Hid (Below w.heap.size w x2) := HB1.out.trans (hb.mono HB1.out.size)
                  clear hb HG HS5 HB1
                  by_cases hqp : q = p
                  · obtain rfl : oq = false := by
                      cases oq with
                      | false => rfl
                      | true => exact absurd hqp HOq.out.ne
                    clear HOq
                    go_wp2_with fail
                    refine (HS6.out.len).mono ?_
                    rintro e w' ⟨rfl, hw⟩
                    rw [hw]
                    clear hw w'
                    go_wp2_with fail
                    go_ret
                    exact ⟨rfl, HB6.out⟩
                  · have hqp' : (q != p) = true := by simp [hqp]
                    cases oq with
                    | false =>
                      go_wp2_with fail
                      refine (HS6.out.q0 hqp).mono ?_
                      rintro e w' ⟨rfl, hw⟩
                      rw [hw]
                      clear hw w'
                      go_wp2_with fail
                      refine (HS6.out.len).mono ?_
                      rintro e w' ⟨rfl, hw⟩
                      rw [hw]
                      clear hw w'
                      go_wp2_with fail
                      go_ret
                      exact ⟨rfl, HB6.out⟩
                    | true =>
                      go_wp2_with fail
                      refine (HS6.out.q1).mono ?_
                      rintro e w' ⟨⟨g2, c2', rfl, hg⟩, hw⟩
                      rw [hw]
                      clear hw w'
                      have HG2 : Hid (Row x2 (some ⟨g2, 0, none⟩) l4) := hg
                      clear hg
                      go_wp2_with fail
                      refine (equal17 _ _ c2' _ l4 l4 _ hl4 HG2.out (R4.out.below HB6.out)).mono ?_
                      rintro e x3 ⟨he, hb⟩
                      rw [decide_eq_true rfl] at he
                      subst he
                      have HS7 : Hid (Af2 w.heap.size bn gn cn l1 au2 cu2 l4 (· ∈ l2) p true l3 q true x3) := HS6.out.below hb
                      have HB7 : Hid (Below w.heap.size w x3) := HB6.out.trans (hb.mono HB6.out.size)
                      clear hb HG2 HS6 HB6
                      go_wp2_with fail
                      refine (HS7.out.len).mono ?_
                      rintro e w' ⟨rfl, hw⟩
                      rw [hw]
                      clear hw w'
                      go_wp2_with fail
                      go_ret
                      exact ⟨rfl, HB7.out⟩
                | false =>
                  refine (HS5.out.p0 HOq.out).mono ?_
                  rintro e w' ⟨rfl, hw⟩
                  rw [hw]
                  clear hw w'
                  by_cases hqp : q = p
                  · obtain rfl : oq = false := by
                      cases oq with
                      | false => rfl
                      | true => exact absurd hqp HOq.out.ne
                    clear HOq
                    go_wp2_with fail
                    refine (HS5.out.len).mono ?_
                    rintro e w' ⟨rfl, hw⟩
                    rw [hw]
                    clear hw w'
                    go_wp2_with fail
                    go_ret
                    exact ⟨rfl, HB1.out⟩
                  · have hqp' : (q != p) = true := by simp [hqp]
                    cases oq with
                    | false =>
                      go_wp2_with fail
                      refine (HS5.out.q0 hqp).mono ?_
                      rintro e w' ⟨rfl, hw⟩
                      rw [hw]
                      clear hw w'
                      go_wp2_with fail
                      refine (HS5.out.len).mono ?_
                      rintro e w' ⟨rfl, hw⟩
                      rw [hw]
                      clear hw w'
                      go_wp2_with fail
                      go_ret
                      exact ⟨rfl, HB1.out⟩
                    | true =>
                      go_wp2_with fail
                      refine (HS5.out.q1).mono ?_
                      rintro e w' ⟨⟨g2, c2', rfl, hg⟩, hw⟩
                      rw [hw]
                      clear hw w'
                      have HG2 : Hid (Row x1 (some ⟨g2, 0, none⟩) l4) := hg
                      clear hg
                      go_wp2_with fail
                      refine (equal17 _ _ c2' _ l4 l4 _ hl4 HG2.out (R4.out.below HB1.out)).mono ?_
                      rintro e x3 ⟨he, hb⟩
                      rw [decide_eq_true rfl] at he
                      subst he
                      have HS7 : Hid (Af2 w.heap.size bn gn cn l1 au2 cu2 l4 (· ∈ l2) p false l3 q true x3) := HS5.out.below hb
                      have HB7 : Hid (Below w.heap.size w x3) := HB1.out.trans (hb.mono HB1.out.size)
                      clear hb HG2 HS5 HB1
                      go_wp2_with fail
                      refine (HS7.out.len).mono ?_
                      rintro e w' ⟨rfl, hw⟩
                      rw [hw]
                      clear hw w'
                      go_wp2_with fail
                      go_ret
                      exact ⟨rfl, HB7.out⟩

end Go.Proofs.Qxb6612866a
