/- removedEach (39), ZZremovedEach (25). -/
import Derived.Test.Qxb6612745aAt
namespace Go.Proofs.Qxb6612745a
open Go.RowKit

/-- The call hands back an entry whose C and R are c and r. -/
def HasCR (c r : Sl) (e : Ending) : Prop := ∃ (k : Int) (m s d ds : Sl), e = .returned (.agg (ent k c m s d ds r))

/-- What t says of q is an entry with C c and R r, from the world w on. -/
def AtCR (w : World) (t : Nat) (q : ByteArray) (c r : Sl) : Prop :=
  ∀ w', Below w.heap.size w w' → Calls Try.prog 41 #[.map (some t), .string q] w' fun e w'' => HasCR c r e ∧ Below w'.heap.size w' w''

theorem AtCR.later {w w' : World} {t : Nat} {q : ByteArray} {c r : Sl} (h : AtCR w t q c r) (hb : Below w.heap.size w w') : AtCR w' t q c r :=
  fun w'' hb' => h w'' (hb.trans (hb'.mono hb.size))

theorem ret_bool {a b : Bool} (h : a = b) : Ending.returned (.bool a) = .returned (.bool b) := by rw [h]

set_option maxRecDepth 100000 in
set_option maxHeartbeats 1000000 in
theorem removed39 (t u : Nat) (q : ByteArray) (c1 r1 c2 r2 : Sl) (lc1 lr1 lc2 lr2 : List (ByteArray × Int)) (w : World) (h1 : AtCR w t q c1 r1) (h2 : AtCR w u q c2 r2)
    (hc1 : c1.has w lc1) (hr1 : r1.has w lr1) (hc2 : c2.has w lc2) (hr2 : r2.has w lr2) (n1 : lr1.length ≤ 1000000) (n2 : lr2.length ≤ 1000000) :
    Calls Try.prog 39 #[.map (some t), .map (some u), .string q] w fun e w' => e = .returned (.bool (decide (lr1 = lc2 ∧ lr2 = lc1))) ∧ Below w.heap.size w w' := by
  go_enter Try.func39, Try.ntmps39
  go_wp2_with fail
  refine (h1 _ (Below.refl _ _)).mono ?_
  rintro e w1 ⟨⟨k1, m1, s1, d1, ds1, rfl⟩, hb1⟩
  go_wp2_with fail
  refine (h2 _ hb1).mono ?_
  rintro e w2 ⟨⟨k2, m2, s2, d2, ds2, rfl⟩, hb2⟩
  have hb02 := hb1.trans (hb2.mono hb1.size)
  go_wp2_with ((with_reducible refine stop34 ?_ ?_); · exact rfl)
  refine Stop.go (wpList_alloc_ent (by rfl) (by rfl) ?_)
  intro b1 w3 lo1 hi1 he1 hb3
  go_wp2_with ((with_reducible refine stop34 ?_ ?_); · exact rfl)
  refine Stop.go (wpList_alloc_ent (by rfl) (by rfl) ?_)
  intro b2 w4 lo2 hi2 he2 hb4
  have he14 := he1.below hb4
  go_wp2_with ((with_reducible refine stop34 ?_ ?_); · exact rfl)
  refine Stop.go (wpList_store_ent _ _ (by rfl) (by rfl) _ _ (ent k1 c1 m1 s1 d1 ds1 r1) (by rfl) (by rfl) he14 (One.ent ..) ?_)
  intro w5 he5 ht5
  have he25 := ht5.ent he2 (by omega)
  go_wp2_with ((with_reducible refine stop34 ?_ ?_); · exact rfl)
  refine Stop.go (wpList_store_ent _ _ (by rfl) (by rfl) _ _ (ent k2 c2 m2 s2 d2 ds2 r2) (by rfl) (by rfl) he25 (One.ent ..) ?_)
  intro w6 he6 ht6
  have he16 := ht6.ent he5 (by omega)
  have sz := hb02.size
  have hb6 : Below w.heap.size w w6 := (((hb02.trans (hb3.mono sz)).trans (hb4.mono (by omega))).trans (ht5.below (by omega))).trans (ht6.below (by omega))
  have x1 : w6.cell? ⟨b1, 19, none⟩ = some (.slice r1.a r1.n r1.cap) := he16.cell 19
  have x2 : w6.cell? ⟨b2, 1, none⟩ = some (.slice c2.a c2.n c2.cap) := he6.cell 1
  clear he1 he2 he14 he5 he25 ht5 ht6 hb3 hb4 hb1 hb2
  go_wp2_with fail
  refine (equal45s r1 c2 lr1 lc2 _ (hr1.below hb6) (hc2.below hb6) n1).mono ?_
  rintro e w7 ⟨rfl, hb7⟩
  have hb07 := hb6.trans (hb7.mono hb6.size)
  by_cases hq : lr1 = lc2
  · rw [decide_eq_true hq]
    have HQ : Hid (lr1 = lc2) := hq
    clear hq
    have y1 : w7.cell? ⟨b2, 19, none⟩ = some (.slice r2.a r2.n r2.cap) := (he6.below hb7).cell 19
    have y2 : w7.cell? ⟨b1, 1, none⟩ = some (.slice c1.a c1.n c1.cap) := (he16.below hb7).cell 1
    go_wp2_with fail
    refine (equal45s r2 c1 lr2 lc1 _ (hr2.below hb07) (hc1.below hb07) n2).mono ?_
    rintro e w8 ⟨rfl, hb8⟩
    go_wp2_with fail
    go_ret
    exact ⟨ret_bool (decide_eq_decide.2 ⟨fun h => ⟨HQ.out, h⟩, fun h => h.2⟩), hb07.trans (hb8.mono hb07.size)⟩
  · rw [decide_eq_false hq]
    have HQ : Hid (¬ lr1 = lc2) := hq
    clear hq
    go_wp2_with fail
    go_ret
    exact ⟨ret_false (fun h => HQ.out h.1), hb07⟩

set_option maxHeartbeats 400000 in
theorem removed25 (t u : Nat) (q : ByteArray) (c1 r1 c2 r2 : Sl) (lc1 lr1 lc2 lr2 : List (ByteArray × Int)) (w : World) (h1 : AtCR w t q c1 r1) (h2 : AtCR w u q c2 r2)
    (hc1 : c1.has w lc1) (hr1 : r1.has w lr1) (hc2 : c2.has w lc2) (hr2 : r2.has w lr2) (n1 : lr1.length ≤ 1000000) (n2 : lr2.length ≤ 1000000) :
    Calls Try.prog 25 #[.map (some t), .map (some u), .string q] w fun e w' => e = .returned (.bool (decide (lr1 = lc2 ∧ lr2 = lc1))) ∧ Below w.heap.size w w' := by
  go_enter Try.func25, Try.ntmps25
  go_wp2_with fail
  refine (removed39 t u q c1 r1 c2 r2 lc1 lr1 lc2 lr2 w h1 h2 hc1 hr1 hc2 hr2 n1 n2).mono ?_
  rintro e w1 ⟨rfl, hb1⟩
  go_wp2_with fail
  go_ret
  exact ⟨ret_bool (Bool.decide_and _ _).symm, hb1⟩

/-- At an entry that the tree holds. -/
theorem AtCR.hit {w : World} {t : Nat} {f : ByteArray → Option Value} {q : ByteArray} {k : Int} {c m s d ds r : Sl} (hm : Maps w t f) (hf : f q = some (.agg (ent k c m s d ds r))) : AtCR w t q c r :=
  fun w' hb => (at41_hit t f q _ w' (One.ent ..) (hm.below hb) hf).mono fun _ _ ⟨he, hb'⟩ => ⟨⟨k, m, s, d, ds, he⟩, hb'⟩

/-- Beneath a directory, with no entry of its own. -/
theorem AtCR.under {w : World} {t : Nat} {f : ByteArray → Option Value} {p q : ByteArray} {c m d r : Sl} (hq : q.size ≤ 9223372036854775807) (hm : Maps w t f) (hf : f p = some (.agg (ent 3 c m Sl.nil d Sl.nil r))) (hn : ∀ s, s ≠ p → f s = none) (hu : Under p q) : AtCR w t q Sl.nil Sl.nil :=
  fun w' hb => (at41_under t f p q c m Sl.nil d Sl.nil r [] [] w' hq (hm.below hb) hf hn hu (Sl.has.nil _) (Sl.has.nil _) (by simp) (by simp) List.Pairwise.nil Pos.nil List.Pairwise.nil Pos.nil).mono fun _ _ ⟨⟨s', he, _⟩, hb'⟩ => ⟨⟨0, d, s', d, Sl.nil, he⟩, hb'⟩

end Go.Proofs.Qxb6612745a
