/- heldNews (38) and its door (21). -/
import Derived.Test.Qxb6612745aAt
namespace Go.Proofs.Qxb6612745a
open Go.RowKit

/-- The read of the tree t at q has these times M and DS, in every later world. -/
def AtMD (w : World) (t : Nat) (q : ByteArray) (m ds : Sl) : Prop :=
  ∀ w', Below w.heap.size w w' → Calls Try.prog 41 #[.map (some t), .string q] w' fun e w'' => (∃ (k : Int) (c s d r : Sl), e = .returned (.agg (ent k c m s d ds r))) ∧ Below w'.heap.size w' w''

/-- What the tree u says of what lies beneath q has this time S, in every later world. -/
def BnS (w : World) (u : Nat) (q : ByteArray) (s : Sl) : Prop :=
  ∀ w', Below w.heap.size w w' → Calls Try.prog 44 #[.map (some u), .string q] w' fun e w'' => (∃ m d : Sl, e = .returned (.agg (ent 0 Sl.nil m s d Sl.nil Sl.nil))) ∧ Below w'.heap.size w' w''

theorem AtMD.later {w w' : World} {t : Nat} {q : ByteArray} {m ds : Sl} (h : AtMD w t q m ds) (hb : Below w.heap.size w w') : AtMD w' t q m ds :=
  fun w'' hb' => h w'' (hb.trans (hb'.mono hb.size))
theorem BnS.later {w w' : World} {t : Nat} {q : ByteArray} {s : Sl} (h : BnS w t q s) (hb : Below w.heap.size w w') : BnS w' t q s :=
  fun w'' hb' => h w'' (hb.trans (hb'.mono hb.size))

/-- The news that is held. -/
def News (lm lds ls : List (ByteArray × Int)) : Prop := ¬ LE lm ls ∧ ¬ LE lds ls

theorem LE.nil {l : List (ByteArray × Int)} (h : Pos l) : LE [] l := fun s => valF_nonneg h s

theorem field34S (k : Int) (c m s d ds r : Sl) (w : World) : (Instr.field 34 (.agg (ent k c m s d ds r)) 3).run Try.prog w = .ok (.slice s.a s.n s.cap) w := by
  cases s; kernel_rfl

set_option maxRecDepth 100000 in
set_option maxHeartbeats 1000000 in
theorem heldNews38 (t u : Nat) (q : ByteArray) (m ds s : Sl) (lm lds ls : List (ByteArray × Int)) (w : World) (h1 : AtMD w t q m ds) (h2 : BnS w u q s)
    (hm : m.has w lm) (hds : ds.has w lds) (hs : s.has w ls) (n1 : lm.length ≤ 1000000) (n2 : lds.length ≤ 1000000) (n3 : ls.length ≤ 1000000) (sm : Srt lm) (sds : Srt lds) (ss : Srt ls) (ps : Pos ls) :
    Calls Try.prog 38 #[.map (some t), .map (some u), .string q] w fun e w' => Says (News lm lds ls) e ∧ Below w.heap.size w w' := by
  have SM : Hid (Srt lm) := sm
  have SD : Hid (Srt lds) := sds
  have SS : Hid (Srt ls) := ss
  have PS : Hid (Pos ls) := ps
  clear sm sds ss ps
  go_enter Try.func38, Try.ntmps38
  go_wp2_with ((with_reducible refine stop34 ?_ ?_); · exact rfl)
  refine (h1 _ (Below.refl _ _)).mono ?_
  rintro e w1 ⟨⟨k1, c1, s1, d1, r1, rfl⟩, hb1⟩
  go_wp2_with ((with_reducible refine stop34 ?_ ?_); · exact rfl)
  refine Stop.go (wpList_alloc_ent (by rfl) (by rfl) ?_)
  intro b1 w2 lo1 hi1 he1 hb2
  go_wp2_with ((with_reducible refine stop34 ?_ ?_); · exact rfl)
  refine Stop.go (wpList_store_ent _ _ (by rfl) (by rfl) _ _ (ent k1 c1 m s1 d1 ds r1) (by rfl) (by rfl) he1 (One.ent ..) ?_)
  intro w3 he3 ht3
  have sz := hb1.size
  have hb3 : Below w.heap.size w w3 := (hb1.trans (hb2.mono sz)).trans (ht3.below (by omega))
  have x1 : w3.cell? ⟨b1, 5, none⟩ = some (.slice ds.a ds.n ds.cap) := he3.cell 5
  clear he1 ht3 hb2 hb1
  by_cases hz : ds.n = 0
  · have hz' : ((ds.n : Int) == 0) = true := by simp [hz]
    have : lds = [] := List.eq_nil_of_length_eq_zero (by rw [← hds.1]; exact hz)
    clear hz
    go_wp2_with ((with_reducible refine stop34 ?_ ?_); · exact rfl)
    go_ret
    exact ⟨Says.no fun h => h.2 (by rw [this]; exact LE.nil PS.out), hb3⟩
  · have hz' : ((ds.n : Int) == 0) = false := by simp; omega
    go_wp2_with ((with_reducible refine stop34 ?_ ?_); · exact rfl)
    refine (h2 _ hb3).mono ?_
    rintro e w4 ⟨⟨m4, d4, rfl⟩, hb4⟩
    have hfld := fun wx => field34S 0 Sl.nil m4 s d4 Sl.nil Sl.nil wx
    have he4 := he3.below hb4
    have hb04 := hb3.trans (hb4.mono hb3.size)
    have x2 : w4.cell? ⟨b1, 2, none⟩ = some (.slice m.a m.n m.cap) := he4.cell 2
    go_wp2_with ((with_reducible refine stop34 ?_ ?_); · exact rfl)
    refine (leq37s m s lm ls _ (hm.below hb04) (hs.below hb04) n1 n3 SM.out SS.out PS.out).mono ?_
    rintro e w5 ⟨⟨b, rfl, hq⟩, hb5⟩
    have hb05 := hb04.trans (hb5.mono hb04.size)
    have x3 : w5.cell? ⟨b1, 5, none⟩ = some (.slice ds.a ds.n ds.cap) := (he4.below hb5).cell 5
    clear x1 x2
    cases b with
    | true =>
      have HQ : Hid (LE lm ls) := hq.1 rfl
      clear hq
      go_wp2_with ((with_reducible refine stop34 ?_ ?_); · exact rfl)
      go_ret
      exact ⟨Says.no fun h => h.1 HQ.out, hb05⟩
    | false =>
      have HQ : Hid (¬ LE lm ls) := fun h => by cases hq.2 h
      clear hq
      go_wp2_with ((with_reducible refine stop34 ?_ ?_); · exact rfl)
      refine (leq37s ds s lds ls _ (hds.below hb05) (hs.below hb05) n2 n3 SD.out SS.out PS.out).mono ?_
      rintro e w6 ⟨⟨b, rfl, hq⟩, hb6⟩
      have hb06 := hb05.trans (hb6.mono hb05.size)
      cases b with
      | true =>
        have HR : Hid (LE lds ls) := hq.1 rfl
        clear hq
        go_wp2_with ((with_reducible refine stop34 ?_ ?_); · exact rfl)
        go_ret
        exact ⟨Says.no fun h => h.2 HR.out, hb06⟩
      | false =>
        have HR : Hid (¬ LE lds ls) := fun h => by cases hq.2 h
        clear hq
        go_wp2_with ((with_reducible refine stop34 ?_ ?_); · exact rfl)
        go_ret
        exact ⟨Says.yes ⟨HQ.out, HR.out⟩, hb06⟩

set_option maxHeartbeats 400000 in
theorem held21 (t u : Nat) (q : ByteArray) (m ds s : Sl) (lm lds ls : List (ByteArray × Int)) (w : World) (h1 : AtMD w t q m ds) (h2 : BnS w u q s)
    (hm : m.has w lm) (hds : ds.has w lds) (hs : s.has w ls) (n1 : lm.length ≤ 1000000) (n2 : lds.length ≤ 1000000) (n3 : ls.length ≤ 1000000) (sm : Srt lm) (sds : Srt lds) (ss : Srt ls) (ps : Pos ls) :
    Calls Try.prog 21 #[.map (some t), .map (some u), .string q] w fun e w' => Says (News lm lds ls) e ∧ Below w.heap.size w w' := by
  go_enter Try.func21, Try.ntmps21
  go_wp2_with fail
  refine (heldNews38 t u q m ds s lm lds ls w h1 h2 hm hds hs n1 n2 n3 sm sds ss ps).mono ?_
  rintro e w1 ⟨⟨b, rfl, hq⟩, hb1⟩
  have HQ : Hid (b = true ↔ News lm lds ls) := hq
  clear hq
  go_wp2_with fail
  go_ret
  exact ⟨Says.is HQ.out, hb1⟩

/-- At an entry that the tree holds. -/
theorem AtMD.hit {w : World} {t : Nat} {f : ByteArray → Option Value} {q : ByteArray} {k : Int} {c m s d ds r : Sl} (hm : Maps w t f) (hf : f q = some (.agg (ent k c m s d ds r))) : AtMD w t q m ds :=
  fun w' hb => (at41_hit t f q _ w' (One.ent ..) (hm.below hb) hf).mono fun _ _ ⟨he, hb'⟩ => ⟨⟨k, c, s, d, r, he⟩, hb'⟩

/-- Beneath a directory, with no entry of its own. -/
theorem AtMD.under {w : World} {t : Nat} {f : ByteArray → Option Value} {p q : ByteArray} {c m s d ds r : Sl} {ls lds : List (ByteArray × Int)} (hq : q.size ≤ 9223372036854775807) (hm : Maps w t f) (hf : f p = some (.agg (ent 3 c m s d ds r))) (hn : ∀ s, s ≠ p → f s = none) (hu : Under p q)
    (hs : s.has w ls) (hds : ds.has w lds) (nl : ls.length ≤ 500000) (nd : lds.length ≤ 500000) (sl : Srt ls) (pl : Pos ls) (sd : Srt lds) (pd : Pos lds) : AtMD w t q d Sl.nil :=
  fun w' hb => (at41_under t f p q c m s d ds r ls lds w' hq (hm.below hb) hf hn hu (hs.below hb) (hds.below hb) nl nd sl pl sd pd).mono fun _ _ ⟨⟨s', he, _⟩, hb'⟩ => ⟨⟨0, Sl.nil, s', d, Sl.nil, he⟩, hb'⟩

theorem BnS.hit {w : World} {t : Nat} {f : ByteArray → Option Value} {q : ByteArray} {c m s d r : Sl} {ls : List (ByteArray × Int)} (hm : Maps w t f) (hf : f q = some (.agg (ent 3 c m s d Sl.nil r)))
    (hs : s.has w ls) (nl : ls.length ≤ 500000) (sl : Srt ls) (pl : Pos ls) : BnS w t q s :=
  fun w' hb => (beneath44 t f q c m s d Sl.nil r ls [] w' (hm.below hb) hf (hs.below hb) (Sl.has.nil _) nl (by simp) sl pl List.Pairwise.nil Pos.nil).mono fun _ _ ⟨⟨s', he, h⟩, hb'⟩ => ⟨⟨d, d, by rw [he, h rfl]⟩, hb'⟩

theorem BnS.under {w : World} {t : Nat} {f : ByteArray → Option Value} {p q : ByteArray} {c m s d r : Sl} {ls : List (ByteArray × Int)} (hq : q.size ≤ 9223372036854775807) (hm : Maps w t f) (hf : f p = some (.agg (ent 3 c m s d Sl.nil r))) (hn : ∀ s, s ≠ p → f s = none) (hu : Under p q)
    (hs : s.has w ls) (nl : ls.length ≤ 500000) (sl : Srt ls) (pl : Pos ls) : BnS w t q s :=
  fun w' hb => (beneath44_under t f p q c m s d Sl.nil r ls [] w' hq (hm.below hb) hf hn hu (hs.below hb) (Sl.has.nil _) nl (by simp) sl pl List.Pairwise.nil Pos.nil).mono fun _ _ ⟨⟨s', he, h⟩, hb'⟩ => ⟨⟨d, d, by rw [he, h rfl]⟩, hb'⟩

end Go.Proofs.Qxb6612745a
