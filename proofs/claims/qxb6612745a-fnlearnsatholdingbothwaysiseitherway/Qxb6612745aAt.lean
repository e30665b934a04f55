/- Tree.Beneath (44) at a directory that is held; Tree.At (41) beneath it, and in an empty tree. -/
import Derived.Test.Qxb6612745aBelow
import Derived.Test.Qxb6612745aAbove
namespace Go.Proofs.Qxb6612745a
open Go.RowKit

/-- What a path beneath a directory reads as: D of the directory; its S, where it has no DS. -/
def Read3 (s d : Sl) (lds : List (ByteArray × Int)) (e : Ending) : Prop := ∃ s' : Sl, e = .returned (.agg (ent 0 Sl.nil d s' d Sl.nil Sl.nil)) ∧ (lds = [] → s' = s)

set_option maxRecDepth 100000 in
set_option maxHeartbeats 1000000 in
theorem beneath44 (mp : Nat) (f : ByteArray → Option Value) (p : ByteArray) (c m s d ds r : Sl) (ls lds : List (ByteArray × Int)) (w : World) (hm : Maps w mp f) (hf : f p = some (.agg (ent 3 c m s d ds r)))
    (hs : s.has w ls) (hds : ds.has w lds) (nl : ls.length ≤ 500000) (nd : lds.length ≤ 500000) (sl : Srt ls) (pl : Pos ls) (sd : Srt lds) (pd : Pos lds) :
    Calls Try.prog 44 #[.map (some mp), .string p] w fun e w' => Read3 s d lds e ∧ Below w.heap.size w w' := by
  have hE := One.ent 3 c m s d ds r
  have HF : Hid (f p = some (.agg (ent 3 c m s d ds r))) := hf
  clear hf
  go_enter Try.func44, Try.ntmps44
  go_wp2_with ((with_reducible refine stop34 ?_ ?_); · exact rfl)
  refine Stop.go (wpList_alloc_ent (by rfl) (by rfl) ?_)
  intro b1 w1 lo1 hi1 he1 hb1
  have hm1 := hm.below hb1
  go_wp2_with ((with_reducible refine stop34 ?_ ?_); · exact rfl)
  refine Stop.go (wpList_look_hit _ _ (by rfl) (by rfl) mp p f _ (by rfl) (by rfl) hm1 HF.out ?_)
  go_wp2_with ((with_reducible refine stop34 ?_ ?_); · exact rfl)
  refine Stop.go (wpList_alloc_ent (by rfl) (by rfl) ?_)
  intro b2 w2 lo2 hi2 he2 hb2
  have he12 := he1.below hb2
  go_wp2_with ((with_reducible refine stop34 ?_ ?_); · exact rfl)
  refine Stop.go (wpList_store_ent _ _ (by rfl) (by rfl) _ _ _ (by rfl) (by rfl) he2 hE ?_)
  intro w3 he3 ht3
  have he13 := ht3.ent he12 (by omega)
  have hb3 : Below w.heap.size w w3 := (hb1.trans (hb2.mono (by omega))).trans (ht3.below (by omega))
  go_wp2_with ((with_reducible refine stop34 ?_ ?_); · exact rfl)
  refine Stop.go (wpList_load_ent _ (by rfl) (by rfl) _ _ (by rfl) he3 ?_)
  go_wp2_with fail
  refine (below47 3 (Or.inr (Or.inr rfl)) c m s d ds r ls lds _ (hs.below hb3) (hds.below hb3) nl nd sl pl sd pd).mono ?_
  rintro e w4 ⟨⟨s', ls', rfl, _, _, _, hSEQ⟩, hb4⟩
  simp only [show ¬ (3 : Int) = 1 by omega, if_false]
  have he14 := he13.below hb4
  have he24 := he3.below hb4
  have HS : Hid (lds = [] → s' = s) := hSEQ
  clear hSEQ
  go_wp2_with ((with_reducible refine stop34 ?_ ?_); · exact rfl)
  refine Stop.go (wpList_alloc_ent (by rfl) (by rfl) ?_)
  intro b3 w5 lo3 hi3 he5 hb5
  have he15 := he14.below hb5
  have he25 := he24.below hb5
  go_wp2_with ((with_reducible refine stop34 ?_ ?_); · exact rfl)
  refine Stop.go (wpList_store_ent _ _ (by rfl) (by rfl) _ _ (ent 0 Sl.nil d s' d Sl.nil Sl.nil) (by rfl) (by rfl) he5 (One.ent ..) ?_)
  intro w6 he6 ht6
  have l14 := he14.lt
  have l24 := he24.lt
  have he16 := ht6.ent he15 (by omega)
  have he26 := ht6.ent he25 (by omega)
  have g0 : w6.cell? ⟨b2, 0, none⟩ = some (.int .u8 3) := he26.cell 0
  have hb6 : Below w.heap.size w w6 := ((hb3.trans (hb4.mono hb3.size)).trans (hb5.mono (by have := hb3.size; have := hb4.size; omega))).trans (ht6.below (by omega))
  go_wp2_with fail
  refine (leaves49 _).mono ?_
  rintro e w' ⟨rfl, hw⟩
  rw [hw]
  clear hw
  go_wp2_with ((with_reducible refine stop34 ?_ ?_); · exact rfl)
  refine Stop.go (wpList_load_ent _ (by rfl) (by rfl) _ _ (by rfl) he6 ?_)
  go_wp2_with ((with_reducible refine stop34 ?_ ?_); · exact rfl)
  refine Stop.go (wpList_store_ent _ _ (by rfl) (by rfl) _ _ _ (by rfl) (by rfl) he16 he6.2 ?_)
  intro w8 he8 ht8
  go_wp2_with ((with_reducible refine stop34 ?_ ?_); · exact rfl)
  exact bodyPost_ret (results_ent rfl rfl he8) rfl ⟨⟨s', rfl, HS.out⟩, hb6.trans (ht8.below (by omega))⟩

set_option maxRecDepth 100000 in
set_option maxHeartbeats 1000000 in
theorem at41_under (mp : Nat) (f : ByteArray → Option Value) (p q : ByteArray) (c m s d ds r : Sl) (ls lds : List (ByteArray × Int)) (w : World) (hq : q.size ≤ 9223372036854775807) (hm : Maps w mp f) (hf : f p = some (.agg (ent 3 c m s d ds r))) (hn : ∀ s, s ≠ p → f s = none) (hu : Under p q)
    (hs : s.has w ls) (hds : ds.has w lds) (nl : ls.length ≤ 500000) (nd : lds.length ≤ 500000) (sl : Srt ls) (pl : Pos ls) (sd : Srt lds) (pd : Pos lds) :
    Calls Try.prog 41 #[.map (some mp), .string q] w fun e w' => Read3 s d lds e ∧ Below w.heap.size w w' := by
  have hE := One.ent 3 c m s d ds r
  have HF : Hid (f p = some (.agg (ent 3 c m s d ds r))) := hf
  have HN : Hid (∀ s, s ≠ p → f s = none) := hn
  have HU : Hid (Under p q) := hu
  clear hf hn hu
  go_enter Try.func41, Try.ntmps41
  go_wp2_with ((with_reducible refine stop34 ?_ ?_); · exact rfl)
  refine Stop.go (wpList_alloc_ent (by rfl) (by rfl) ?_)
  intro b1 w1 lo1 hi1 he1 hb1
  have hm1 := hm.below hb1
  go_wp2_with ((with_reducible refine stop34 ?_ ?_); · exact rfl)
  refine Stop.go (wpList_look_miss _ _ (by rfl) (by rfl) mp q f (by rfl) (by rfl) hm1 (HN.out _ HU.out.ne) ?_)
  go_wp2_with ((with_reducible refine stop34 ?_ ?_); · exact rfl)
  refine Stop.go (wpList_alloc_ent (by rfl) (by rfl) ?_)
  intro b2 w2 lo2 hi2 he2 hb2
  have he12 := he1.below hb2
  go_wp2_with ((with_reducible refine stop34 ?_ ?_); · exact rfl)
  refine Stop.go (wpList_store_ent _ _ (by rfl) (by rfl) _ _ ent0 (by rfl) (by rfl) he2 One.zero ?_)
  intro w3 he3 ht3
  have he13 := ht3.ent he12 (by omega)
  have hb3 : Below w.heap.size w w3 := (hb1.trans (hb2.mono (by omega))).trans (ht3.below (by omega))
  go_wp2_with fail
  refine (above46 mp f p q _ _ hq hE (hm.below hb3) HF.out HN.out HU.out).mono ?_
  rintro e w4 ⟨rfl, hb4⟩
  have hb04 := hb3.trans (hb4.mono hb3.size)
  have he14 := he13.below hb4
  go_wp2_with fail
  refine (beneath44 mp f p c m s d ds r ls lds _ (hm.below hb04) HF.out (hs.below hb04) (hds.below hb04) nl nd sl pl sd pd).mono ?_
  rintro e w5 ⟨⟨s', rfl, hSEQ⟩, hb5⟩
  have he15 := he14.below hb5
  have HS : Hid (lds = [] → s' = s) := hSEQ
  clear hSEQ
  go_wp2_with ((with_reducible refine stop34 ?_ ?_); · exact rfl)
  refine Stop.go (wpList_store_ent _ _ (by rfl) (by rfl) _ _ (ent 0 Sl.nil d s' d Sl.nil Sl.nil) (by rfl) (by rfl) he15 (One.ent ..) ?_)
  intro w8 he8 ht8
  go_wp2_with ((with_reducible refine stop34 ?_ ?_); · exact rfl)
  exact bodyPost_ret (results_ent rfl rfl he8) rfl ⟨⟨s', rfl, HS.out⟩, (hb04.trans (hb5.mono hb04.size)).trans (ht8.below (by omega))⟩

set_option maxRecDepth 100000 in
set_option maxHeartbeats 1000000 in
/-- Beneath at a path that the tree does not hold, beneath a directory that it holds. -/
theorem beneath44_under (mp : Nat) (f : ByteArray → Option Value) (p q : ByteArray) (c m s d ds r : Sl) (ls lds : List (ByteArray × Int)) (w : World) (hq : q.size ≤ 9223372036854775807) (hm : Maps w mp f) (hf : f p = some (.agg (ent 3 c m s d ds r))) (hn : ∀ s, s ≠ p → f s = none) (hu : Under p q)
    (hs : s.has w ls) (hds : ds.has w lds) (nl : ls.length ≤ 500000) (nd : lds.length ≤ 500000) (sl : Srt ls) (pl : Pos ls) (sd : Srt lds) (pd : Pos lds) :
    Calls Try.prog 44 #[.map (some mp), .string q] w fun e w' => Read3 s d lds e ∧ Below w.heap.size w w' := by
  have HF : Hid (f p = some (.agg (ent 3 c m s d ds r))) := hf
  have HN : Hid (∀ s, s ≠ p → f s = none) := hn
  have HU : Hid (Under p q) := hu
  clear hf hn hu
  go_enter Try.func44, Try.ntmps44
  go_wp2_with ((with_reducible refine stop34 ?_ ?_); · exact rfl)
  refine Stop.go (wpList_alloc_ent (by rfl) (by rfl) ?_)
  intro b1 w1 lo1 hi1 he1 hb1
  have hm1 := hm.below hb1
  go_wp2_with ((with_reducible refine stop34 ?_ ?_); · exact rfl)
  refine Stop.go (wpList_look_miss _ _ (by rfl) (by rfl) mp q f (by rfl) (by rfl) hm1 (HN.out _ HU.out.ne) ?_)
  go_wp2_with ((with_reducible refine stop34 ?_ ?_); · exact rfl)
  refine Stop.go (wpList_alloc_ent (by rfl) (by rfl) ?_)
  intro b2 w2 lo2 hi2 he2 hb2
  have he12 := he1.below hb2
  go_wp2_with ((with_reducible refine stop34 ?_ ?_); · exact rfl)
  refine Stop.go (wpList_store_ent _ _ (by rfl) (by rfl) _ _ ent0 (by rfl) (by rfl) he2 One.zero ?_)
  intro w3 he3 ht3
  have he13 := ht3.ent he12 (by omega)
  have hb3 : Below w.heap.size w w3 := (hb1.trans (hb2.mono (by omega))).trans (ht3.below (by omega))
  go_wp2_with fail
  refine (at41_under mp f p q c m s d ds r ls lds _ hq (hm.below hb3) HF.out HN.out HU.out (hs.below hb3) (hds.below hb3) nl nd sl pl sd pd).mono ?_
  rintro e w5 ⟨⟨s', rfl, hSEQ⟩, hb5⟩
  have he15 := he13.below hb5
  have HS : Hid (lds = [] → s' = s) := hSEQ
  clear hSEQ
  go_wp2_with ((with_reducible refine stop34 ?_ ?_); · exact rfl)
  refine Stop.go (wpList_store_ent _ _ (by rfl) (by rfl) _ _ (ent 0 Sl.nil d s' d Sl.nil Sl.nil) (by rfl) (by rfl) he15 (One.ent ..) ?_)
  intro w8 he8 ht8
  go_wp2_with ((with_reducible refine stop34 ?_ ?_); · exact rfl)
  exact bodyPost_ret (results_ent rfl rfl he8) rfl ⟨⟨s', rfl, HS.out⟩, (hb3.trans (hb5.mono hb3.size)).trans (ht8.below (by omega))⟩

set_option maxRecDepth 100000 in
set_option maxHeartbeats 1000000 in
theorem at41_empty (mp : Nat) (f : ByteArray → Option Value) (q : ByteArray) (w : World) (hq : q.size ≤ 9223372036854775807) (hm : Maps w mp f) (hn : ∀ s, f s = none) :
    Calls Try.prog 41 #[.map (some mp), .string q] w fun e w' => e = .returned (.agg ent0) ∧ Below w.heap.size w w' := by
  have HN : Hid (∀ s, f s = none) := hn
  clear hn
  go_enter Try.func41, Try.ntmps41
  go_wp2_with ((with_reducible refine stop34 ?_ ?_); · exact rfl)
  refine Stop.go (wpList_alloc_ent (by rfl) (by rfl) ?_)
  intro b1 w1 lo1 hi1 he1 hb1
  have hm1 := hm.below hb1
  go_wp2_with ((with_reducible refine stop34 ?_ ?_); · exact rfl)
  refine Stop.go (wpList_look_miss _ _ (by rfl) (by rfl) mp q f (by rfl) (by rfl) hm1 (HN.out _) ?_)
  go_wp2_with ((with_reducible refine stop34 ?_ ?_); · exact rfl)
  refine Stop.go (wpList_alloc_ent (by rfl) (by rfl) ?_)
  intro b2 w2 lo2 hi2 he2 hb2
  have he12 := he1.below hb2
  go_wp2_with ((with_reducible refine stop34 ?_ ?_); · exact rfl)
  refine Stop.go (wpList_store_ent _ _ (by rfl) (by rfl) _ _ ent0 (by rfl) (by rfl) he2 One.zero ?_)
  intro w3 he3 ht3
  have he13 := ht3.ent he12 (by omega)
  have hb3 : Below w.heap.size w w3 := (hb1.trans (hb2.mono (by omega))).trans (ht3.below (by omega))
  go_wp2_with fail
  refine (above46_none mp f q _ hq (hm.below hb3) HN.out).mono ?_
  rintro e w4 ⟨rfl, hb4⟩
  have hb04 := hb3.trans (hb4.mono hb3.size)
  have he14 := he13.below hb4
  go_wp2_with ((with_reducible refine stop34 ?_ ?_); · exact rfl)
  refine Stop.go (wpList_store_ent _ _ (by rfl) (by rfl) _ _ ent0 (by rfl) (by rfl) he14 One.zero ?_)
  intro w8 he8 ht8
  go_wp2_with ((with_reducible refine stop34 ?_ ?_); · exact rfl)
  exact bodyPost_ret (results_ent rfl rfl he8) rfl ⟨rfl, hb04.trans (ht8.below (by omega))⟩

end Go.Proofs.Qxb6612745a
