/- The walk of FnRemovedEachRecognisesTheCrossing (7). -/
import Derived.Test.Qxb6612745aBy24
import Derived.Test.Qxb6612745aLit
import Derived.Test.Qxb6612745aRemoved
import Derived.Test.Qxb6612745aOwn
import Derived.Deep.CutRange
namespace Go.Proofs.Qxb6612745a
open Go.RowKit

theorem time14t (a : Option Addr) (cap : Nat) (l : List (ByteArray × Int)) (w : World) (hl : l.length ≤ 1000000) (hr : Row w a l) :
    Calls Try.prog 14 #[.slice a l.length cap] w fun e w' => Gives l w' e ∧ Below w.heap.size w w' :=
  (time14 a cap l w hl hr).mono fun _ _ ⟨h, hb⟩ => ⟨h.gives, hb⟩

theorem Sl.has.mapped7 {s : Sl} {w w' : World} {l : List (ByteArray × Int)} {m : Nat} {f : ByteArray → Option Value} (h : s.has w l) (hm : Maps w m f) (ht : Turned w w' m) : s.has w' l := ⟨h.1, h.2.1, hm.row ht h.2.2⟩

/-- A tree of one file at p, with C over lc and R over lr. -/
def File1 (W : World) (p : ByteArray) (lc lr : List (ByteArray × Int)) (v : Value) (w : World) : Prop :=
  ∃ (b : Nat) (c r : Sl), v = .map (some b) ∧ Maps w b (fun k => if k = p then some (.agg (ent 1 c Sl.nil Sl.nil Sl.nil Sl.nil r)) else none) ∧ c.has w lc ∧ r.has w lr ∧ Below W.heap.size W w

/-- A slice over l. -/
def Sl1 (W : World) (l : List (ByteArray × Int)) (v : Value) (w : World) : Prop := ∃ s : Sl, v = .slice s.a s.n s.cap ∧ s.has w l ∧ Below W.heap.size W w

/-- A tree of one file at p, with C over lc and the R that is given. -/
def FileR (W : World) (p : ByteArray) (lc : List (ByteArray × Int)) (r : Sl) (v : Value) (w : World) : Prop :=
  ∃ (b : Nat) (c : Sl), v = .map (some b) ∧ Maps w b (fun k => if k = p then some (.agg (ent 1 c Sl.nil Sl.nil Sl.nil Sl.nil r)) else none) ∧ c.has w lc ∧ Below W.heap.size W w

theorem snoc_ne {l : List (ByteArray × Int)} {e : ByteArray × Int} : l ++ [e] ≠ l := fun h => by have := congrArg List.length h; simp at this

theorem own_block {w : World} {B n : Nat} {e : TypeId} {size : Nat} {v : Value} {xs : List Value} (h : w.ownsRow B e size v n xs) : ∀ k, v.ownBlock = some k → B ≤ k := by
  intro k hk
  obtain ⟨_, h2⟩ := h
  rcases h2 with ⟨rfl, _⟩ | ⟨g, cap, cur, rfl, hB, _⟩
  · cases hk
  · cases hk; exact hB

set_option maxRecDepth 100000 in
set_option maxHeartbeats 8000000 in
theorem walk7 (p nm : ByteArray) (x : Int) (a1 a2 : Option Addr) (c1 c2 : Nat) (l1 l2 : List (ByteArray × Int)) (w : World)
    (hl1 : l1.length ≤ 9223372036854775807) (hl2 : l2.length ≤ 9223372036854775807) (hr1 : Row w a1 l1) (hr2 : Row w a2 l2) :
    Calls Try.prog 7 #[.string p, .slice a1 l1.length c1, .slice a2 l2.length c2, .string nm, .int .u64 x] w fun e w' => e = .returned (.bool true) ∧ Below w.heap.size w w' := by
  have R1 : Hid (Row w a1 l1) := hr1
  have R2 : Hid (Row w a2 l2) := hr2
  clear hr1 hr2
  go_enter Try.func7, Try.ntmps7
  go_wp2_with fail
  refine (bytes24 p a1 c1 l1 a2 c2 l2 nm x _ hl1 R1.out hl2 R2.out).mono ?_
  rintro e w' ⟨⟨b, rfl⟩, hw⟩
  rw [hw]
  clear hw w'
  cases b with
  | false =>
    go_wp2_with fail
    go_ret
    exact ⟨rfl, Below.refl _ _⟩
  | true =>
    go_wp2_with fail
    all_goals (try (go_ret; exact ⟨rfl, Below.refl _ _⟩))
    have M1 : l1.length ≤ 4096 := by omega
    have M2 : l2.length ≤ 4096 := by omega
    refine (addElems _ _ _ _ _ hl1 R1.out).mono ?_
    rintro e w' ⟨⟨n1, rfl⟩, hw⟩
    rw [hw]
    clear hw w'
    go_wp2_with fail
    refine (addElems _ _ _ _ _ hl2 R2.out).mono ?_
    rintro e w' ⟨⟨n2, rfl⟩, hw⟩
    rw [hw]
    clear hw w'
    by_cases hn2 : 1048576 < n2
    · go_wp2_with fail
      go_ret
      exact ⟨rfl, Below.refl _ _⟩
    have hn2' : decide (1048576 < n2) = false := by simpa using hn2
    go_upto_region 9 with fail
    have N1 : l1.length ≤ 1000000 := by omega
    have N2 : l2.length ≤ 1000000 := by omega
    clear hn2 hn2' hl1 hl2
    have HB : Below w.heap.size w w := Below.refl _ _
    go_cut [12] from 16 to 60 (fun vv wz => File1 w p l1 l2 vv wz)
    case first =>
     as_aux_lemma =>
      go_wp2_with ((with_reducible refine stopTree ?_ ?_); · exact rfl)
      refine Stop.go (wpList_makeTree (by rfl) (by rfl) ?_)
      intro m x1 lo1 hi1 hm1 hb1
      have HB1 := HB.trans (hb1.mono HB.size)
      go_wp2_with fail
      refine (time14t _ _ _ _ N1 (R1.out.below HB1)).mono ?_
      rintro e x2 ⟨⟨c, rfl, hc⟩, hb2⟩
      have HB2 := HB1.trans (hb2.mono HB1.size)
      go_wp2_with fail
      refine (time14t _ _ _ _ N2 (R2.out.below HB2)).mono ?_
      rintro e x3 ⟨⟨r, rfl, hr⟩, hb3⟩
      have hm3 := (hm1.below hb2).below hb3
      go_wp2_with ((with_reducible refine stopTree ?_ ?_); · exact rfl)
      refine Stop.go (wpList_insert _ _ _ (by rfl) (by rfl) m p (.agg (ent 1 c Sl.nil Sl.nil Sl.nil Sl.nil r)) _ (by rfl) (by rfl) (by rfl) hm3 rfl ?_)
      intro x4 hm4 ht4
      go_wp2_with fail
      go_meet
      case rel => exact ⟨m, c, r, rfl, hm4, (hc.below hb3).mapped7 hm3 ht4, hr.mapped7 hm3 ht4, ((hb1.trans (hb2.mono hb1.size)).trans (hb3.mono (by have := hb1.size; have := hb2.size; omega))).trans (ht4.below lo1)⟩
    case rest =>
    obtain ⟨mt, s1, s2, rfl, hMt, hs1, hs2, hbc⟩ := hcut
    have HB := HB.trans (hbc.mono HB.size)
    clear hbc
    go_upto_region 10 with fail
    go_cut [13] from 16 to 68 (fun vv wz => File1 wc p l2 l1 vv wz)
    case first =>
     as_aux_lemma =>
      go_wp2_with ((with_reducible refine stopTree ?_ ?_); · exact rfl)
      refine Stop.go (wpList_makeTree (by rfl) (by rfl) ?_)
      intro m x1 lo1 hi1 hm1 hb1
      have HB1 := HB.trans (hb1.mono HB.size)
      go_wp2_with fail
      refine (time14t _ _ _ _ N2 (R2.out.below HB1)).mono ?_
      rintro e x2 ⟨⟨c, rfl, hc⟩, hb2⟩
      have HB2 := HB1.trans (hb2.mono HB1.size)
      go_wp2_with fail
      refine (time14t _ _ _ _ N1 (R1.out.below HB2)).mono ?_
      rintro e x3 ⟨⟨r, rfl, hr⟩, hb3⟩
      have hm3 := (hm1.below hb2).below hb3
      go_wp2_with ((with_reducible refine stopTree ?_ ?_); · exact rfl)
      refine Stop.go (wpList_insert _ _ _ (by rfl) (by rfl) m p (.agg (ent 1 c Sl.nil Sl.nil Sl.nil Sl.nil r)) _ (by rfl) (by rfl) (by rfl) hm3 rfl ?_)
      intro x4 hm4 ht4
      go_wp2_with fail
      go_meet
      case rel => exact ⟨m, c, r, rfl, hm4, (hc.below hb3).mapped7 hm3 ht4, hr.mapped7 hm3 ht4, ((hb1.trans (hb2.mono hb1.size)).trans (hb3.mono (by have := hb1.size; have := hb2.size; omega))).trans (ht4.below lo1)⟩
    case rest =>
    obtain ⟨mu, s3, s4, rfl, hMu, hs3, hs4, hbc⟩ := hcut
    have hMt := hMt.below hbc
    have hs1 := hs1.below hbc
    have hs2 := hs2.below hbc
    have HB := HB.trans (hbc.mono HB.size)
    clear hbc
    go_upto_region 11 with fail
    go_wp2_with fail
    refine (time14o _ _ _ _ N1 (R1.out.below HB)).mono ?_
    rintro e wm ⟨⟨am, cm, rfl, hown⟩, hbm⟩
    go_upto_region 12 with fail
    obtain ⟨i46, hi46, hz46, hs46, hy46⟩ := info_parts info46
    have szm := hbm.size
    go_cut [14] from 16 to 76 (fun vv wz => Sl1 wc (l1 ++ [(nm, x)]) vv wz)
    case first =>
     as_aux_lemma =>
      go_wp2_with (at_builtin; refine wpList_append_lies _ (by rfl) _ _ 28 (by rfl) wc.heap.size 46 i46 _ 2 24 Try.underlying28 hi46 hz46 hs46 hy46 rfl (by omega) _ l1.length (cellsOf l1) (by rfl) (hown.alloc _) ⟨wm.heap.size, 0, none⟩ 1 1 [.string nm, .int .u64 x] (by rfl) (by rfl) ?c1 ?c2 (by omega) ?c3 ?c4 ?c5 (wm.heap.size + 1) (by simp) ?_)
      case c1 =>
        intro j v hj
        match j, hj with
        | 0, hj => simp at hj; subst hj; simp [Addr.add]
        | 1, hj => simp at hj; subst hj; simp [Addr.add]
      case c2 => intro v hv; simp at hv; rcases hv with rfl | rfl <;> rfl
      case c3 => unfold maxLen; omega
      case c4 => omega
      case c5 => simp; omega
      intro g cap wn hown2 hgrow hat hltg
      rw [← cellsOf_snoc l1 (nm, x)] at hown2
      have hsl := own_has hown2 (by simp)
      have hbA : Below wc.heap.size wc (wm.alloc (.cells #[.string nm, .int .u64 x] 46)) := (hbm.mono (Nat.le_refl _)).alloc szm _
      have hbn := hbA.grown hgrow hbA.size (own_block hown)
      go_wp2_with fail
      go_meet
      case rel => exact ⟨⟨some ⟨g, 0, none⟩, l1.length + 1, cap⟩, rfl, hsl, hbn⟩
    case rest =>
    obtain ⟨s5, rfl, hs5, hbc⟩ := hcut
    have hMt := hMt.below hbc
    have hs1 := hs1.below hbc
    have hs2 := hs2.below hbc
    have hMu := hMu.below hbc
    have hs3 := hs3.below hbc
    have hs4 := hs4.below hbc
    have HB := HB.trans (hbc.mono HB.size)
    clear hbc
    go_upto_region 13 with fail
    go_cut [15] from 16 to 83 (fun vv wz => FileR wc p l2 s5 vv wz)
    case first =>
     as_aux_lemma =>
      go_wp2_with ((with_reducible refine stopTree ?_ ?_); · exact rfl)
      refine Stop.go (wpList_makeTree (by rfl) (by rfl) ?_)
      intro m x1 lo1 hi1 hm1 hb1
      have HB1 := HB.trans (hb1.mono HB.size)
      go_wp2_with fail
      refine (time14t _ _ _ _ N2 (R2.out.below HB1)).mono ?_
      rintro e x2 ⟨⟨c, rfl, hc⟩, hb2⟩
      have hm2 := hm1.below hb2
      go_wp2_with ((with_reducible refine stopTree ?_ ?_); · exact rfl)
      refine Stop.go (wpList_insert _ _ _ (by rfl) (by rfl) m p (.agg (ent 1 c Sl.nil Sl.nil Sl.nil Sl.nil s5)) _ (by rfl) (by rfl) (by rfl) hm2 rfl ?_)
      intro x4 hm4 ht4
      go_wp2_with fail
      go_meet
      case rel => exact ⟨m, c, rfl, hm4, hc.mapped7 hm2 ht4, (hb1.trans (hb2.mono hb1.size)).trans (ht4.below lo1)⟩
    case rest =>
    obtain ⟨mv, s6, rfl, hMv, hs6, hbc⟩ := hcut
    have hMt := hMt.below hbc
    have hs1 := hs1.below hbc
    have hs2 := hs2.below hbc
    have hMu := hMu.below hbc
    have hs3 := hs3.below hbc
    have hs4 := hs4.below hbc
    have hs5 := hs5.below hbc
    have HB := HB.trans (hbc.mono HB.size)
    clear hbc
    have A1 : AtCR wc mt p s1 s2 := AtCR.hit hMt (if_pos rfl)
    have A2 : AtCR wc mu p s3 s4 := AtCR.hit hMu (if_pos rfl)
    have A3 : AtCR wc mv p s6 s5 := AtCR.hit hMv (if_pos rfl)
    clear hMt hMu hMv
    have L5 : (l1 ++ [(nm, x)]).length ≤ 1000000 := by simp; omega
    have HBc : Below wc.heap.size wc wc := Below.refl _ _
    go_wp2_with fail
    refine (removed25 mt mu p s1 s2 s3 s4 l1 l2 l2 l1 _ (A1.later HBc) (A2.later HBc) (hs1.below HBc) (hs2.below HBc) (hs3.below HBc) (hs4.below HBc) N2 N1).mono ?_
    rintro e y1 ⟨rfl, hy1⟩
    rw [show decide (l2 = l2 ∧ l1 = l1) = true from decide_eq_true ⟨rfl, rfl⟩]
    have HBc := HBc.trans (hy1.mono HBc.size)
    clear hy1
    go_wp2_with fail
    refine (removed25 mu mt p s3 s4 s1 s2 l2 l1 l1 l2 _ (A2.later HBc) (A1.later HBc) (hs3.below HBc) (hs4.below HBc) (hs1.below HBc) (hs2.below HBc) N1 N2).mono ?_
    rintro e y2 ⟨rfl, hy2⟩
    rw [show decide (l1 = l1 ∧ l2 = l2) = true from decide_eq_true ⟨rfl, rfl⟩]
    have HBc := HBc.trans (hy2.mono HBc.size)
    clear hy2
    go_wp2_with fail
    refine (removed25 mt mv p s1 s2 s6 s5 l1 l2 l2 (l1 ++ [(nm, x)]) _ (A1.later HBc) (A3.later HBc) (hs1.below HBc) (hs2.below HBc) (hs6.below HBc) (hs5.below HBc) N2 L5).mono ?_
    rintro e y3 ⟨rfl, hy3⟩
    rw [show decide (l2 = l2 ∧ l1 ++ [(nm, x)] = l1) = false from decide_eq_false fun h => snoc_ne h.2]
    have HBc := HBc.trans (hy3.mono HBc.size)
    clear hy3
    go_wp2_with fail
    refine (removed25 mv mt p s6 s5 s1 s2 l2 (l1 ++ [(nm, x)]) l1 l2 _ (A3.later HBc) (A1.later HBc) (hs6.below HBc) (hs5.below HBc) (hs1.below HBc) (hs2.below HBc) L5 N2).mono ?_
    rintro e y4 ⟨rfl, hy4⟩
    rw [show decide (l1 ++ [(nm, x)] = l1 ∧ l2 = l2) = false from decide_eq_false fun h => snoc_ne h.1]
    have HBc := HBc.trans (hy4.mono HBc.size)
    clear hy4
    go_wp2_with fail
    refine (removed25 mt mt p s1 s2 s1 s2 l1 l2 l1 l2 _ (A1.later HBc) (A1.later HBc) (hs1.below HBc) (hs2.below HBc) (hs1.below HBc) (hs2.below HBc) N2 N2).mono ?_
    rintro e y5 ⟨rfl, hy5⟩
    have DE : decide (l2 = l1 ∧ l2 = l1) = decide (l1 = l2) := decide_eq_decide.2 ⟨fun h => h.1.symm, fun h => ⟨h.symm, h.symm⟩⟩
    rw [DE]
    clear DE
    have HBc := HBc.trans (hy5.mono HBc.size)
    clear hy5
    go_wp2_with fail
    refine (same26 _ _ _ _ _ _ _ (by omega) (R1.out.below (HB.trans (HBc.mono HB.size))) (R2.out.below (HB.trans (HBc.mono HB.size)))).mono ?_
    rintro e y6 ⟨rfl, hy6⟩
    have HBc := HBc.trans (hy6.mono HBc.size)
    by_cases hq : l1 = l2
    · rw [decide_eq_true hq]
      clear hq
      go_wp2_with fail
      go_ret
      exact ⟨rfl, HB.trans (HBc.mono HB.size)⟩
    · rw [decide_eq_false hq]
      clear hq
      go_wp2_with fail
      go_ret
      exact ⟨rfl, HB.trans (HBc.mono HB.size)⟩

end Go.Proofs.Qxb6612745a
