/- Entry.Below (47) and the kinds (49, 53, 57). -/
import Derived.Test.Qxb6612745aMax
namespace Go.Proofs.Qxb6612745a
open Go.RowKit

set_option maxHeartbeats 400000 in
theorem counts53 (k : Int) (hk : k = 0 ∨ k = 1 ∨ k = 3) (w : World) :
    Calls Try.prog 53 #[.int .u8 k] w fun e w' => e = .returned (.bool (decide (k ≠ 1))) ∧ w' = w := by
  rcases hk with rfl | rfl | rfl
  all_goals
    go_enter Try.func53, Try.ntmps53
    go_wp2
    go_ret
    exact ⟨rfl, rfl⟩

set_option maxHeartbeats 400000 in
theorem leaves49 (w : World) :
    Calls Try.prog 49 #[.int .u8 3] w fun e w' => e = .returned (.bool false) ∧ w' = w := by
  go_enter Try.func49, Try.ntmps49
  go_wp2
  go_ret
  exact ⟨rfl, rfl⟩

/-- One cell of an entry is written. -/
theorem Ent.setCell {w : World} {b : Nat} {E : Array Value} (h : Ent w b E) (i : Nat) (v : Value) (hv : v.oneCell' = true) : Ent (w.setCell ⟨b, i, none⟩ v) b (E.setIfInBounds i v) := by
  refine ⟨?_, by simp [h.2.1], ?_⟩
  · simp [World.setCell, Array.getElem?_modify, h.1]
  · rw [Array.all_eq_true_iff_forall_mem]
    intro x hx
    rcases Array.mem_or_eq_of_mem_setIfInBounds hx with hx | rfl
    · exact (Array.all_eq_true_iff_forall_mem.1 h.2.2) x hx
    · exact hv

theorem setCell_turned (w : World) (b i : Nat) (v : Value) : Turned w (w.setCell ⟨b, i, none⟩ v) b :=
  ⟨rfl, rfl, rfl, by simp [World.setCell], fun k hk => Below.heap_setCell _ _ _ _ hk⟩

theorem Turned.trans {w w' w'' : World} {b : Nat} (h : Turned w w' b) (h' : Turned w' w'' b) : Turned w w'' b :=
  ⟨h'.os.trans h.os, h'.tape.trans h.tape, h'.output.trans h.output, h'.size.trans h.size, fun k hk => (h'.block k hk).trans (h.block k hk)⟩
theorem Turned.drew {w w' : World} {b : Nat} (h : Turned w w' b) : Turned w w'.drew b := ⟨h.os, h.tape, h.output, h.size, h.block⟩
theorem Ent.drew {w : World} {b : Nat} {E : Array Value} (h : Ent w b E) : Ent w.drew b E := h

/-- A slice over the pairs l: its length and room are right. -/
def Sl.has (s : Sl) (w : World) (l : List (ByteArray × Int)) : Prop := s.n = l.length ∧ s.n ≤ s.cap ∧ Row w s.a l

theorem Sl.has.below {s : Sl} {w w' : World} {l : List (ByteArray × Int)} (h : s.has w l) (hb : Below w.heap.size w w') : s.has w' l := ⟨h.1, h.2.1, h.2.2.below hb⟩
theorem Sl.has.nil (w : World) : Sl.nil.has w [] := ⟨rfl, Nat.le_refl _, Row.nil _ _⟩

/-- The call hands back a slice over the pairs l. -/
def Gives (l : List (ByteArray × Int)) (w : World) (e : Ending) : Prop := ∃ s : Sl, e = .returned (.slice s.a s.n s.cap) ∧ s.has w l

theorem Time.gives {l : List (ByteArray × Int)} {w : World} {e : Ending} (h : Time l w e) : Gives l w e := by
  obtain ⟨a, cap, rfl, hc, hr⟩ := h
  exact ⟨⟨a, l.length, cap⟩, rfl, rfl, hc, hr⟩

/-- A slice handed back: the one that came (over the same pairs), or one that lies in memory from block B on. -/
def Place (B : Nat) (s : Sl) (ls : List (ByteArray × Int)) (s' : Sl) (ls' : List (ByteArray × Int)) : Prop := (s' = s ∧ ls' = ls) ∨ ∃ g, s'.a = some ⟨g, 0, none⟩ ∧ B ≤ g

theorem Sl.has.turned {s : Sl} {w w' : World} {l : List (ByteArray × Int)} {b : Nat} (h : s.has w l) (ht : Turned w w' b) (hne : ∀ x, s.a = some x → x.block ≠ b) : s.has w' l := ⟨h.1, h.2.1, ht.row h.2.2 hne⟩

theorem max18s (s u : Sl) (ls lu : List (ByteArray × Int)) (w : World) (hs : s.has w ls) (hu : u.has w lu) (nl : ls.length ≤ 500000) (nu : lu.length ≤ 500000) (sl : Srt ls) (su : Srt lu) (pl : Pos ls) (pu : Pos lu) :
    Calls Try.prog 18 #[.slice s.a s.n s.cap, .slice u.a u.n u.cap] w fun e w' => (∃ (m : List (ByteArray × Int)) (s' : Sl), e = .returned (.slice s'.a s'.n s'.cap) ∧ s'.has w' m ∧ Place w.heap.size s ls s' m ∧ IsMax ls lu m ∧ m.length ≤ ls.length + lu.length) ∧ Below w.heap.size w w' := by
  rw [hs.1, hu.1]
  refine (max18 _ _ _ _ ls lu w nl nu (by rw [← hs.1]; exact hs.2.1) (by rw [← hu.1]; exact hu.2.1) sl su pl pu hs.2.2 hu.2.2).mono ?_
  rintro e w' ⟨⟨m, a', cap', rfl, hc, hr, hp, h2, h3⟩, hb⟩
  refine ⟨⟨m, ⟨a', m.length, cap'⟩, rfl, ⟨rfl, hc, hr⟩, ?_, h2, h3⟩, hb⟩
  rcases hp with ⟨rfl, rfl, rfl⟩ | hp
  · exact Or.inl ⟨by rw [← hs.1], rfl⟩
  · exact Or.inr hp

theorem leq37s (s u : Sl) (ls lu : List (ByteArray × Int)) (w : World) (hs : s.has w ls) (hu : u.has w lu) (nl : ls.length ≤ 1000000) (nu : lu.length ≤ 1000000) (sl : Srt ls) (su : Srt lu) (pu : Pos lu) :
    Calls Try.prog 37 #[.slice s.a s.n s.cap, .slice u.a u.n u.cap] w fun e w' => Says (LE ls lu) e ∧ Below w.heap.size w w' := by
  rw [hs.1, hu.1]
  exact leq37 _ _ _ _ ls lu w nl nu (by rw [← hu.1]; exact hu.2.1) sl su pu hs.2.2 hu.2.2

theorem equal45s (s u : Sl) (ls lu : List (ByteArray × Int)) (w : World) (hs : s.has w ls) (hu : u.has w lu) (nl : ls.length ≤ 1000000) :
    Calls Try.prog 45 #[.slice s.a s.n s.cap, .slice u.a u.n u.cap] w fun e w' => e = .returned (.bool (decide (ls = lu))) ∧ Below w.heap.size w w' := by
  rw [hs.1, hu.1]
  exact equal45 _ _ _ _ ls lu w (by omega) hs.2.2 hu.2.2

/-- What Below hands back: D where the kind counts deletions; S joined with DS. -/
def BelowOf (k : Int) (s d : Sl) (ls lds : List (ByteArray × Int)) (w : World) (e : Ending) : Prop :=
  ∃ (s' : Sl) (ls' : List (ByteArray × Int)), e = .returned (.agg (ent 0 Sl.nil (if k = 1 then Sl.nil else d) s' (if k = 1 then Sl.nil else d) Sl.nil Sl.nil)) ∧ s'.has w ls' ∧ IsMax ls lds ls' ∧ ls'.length ≤ ls.length + lds.length ∧ (lds = [] → s' = s)

theorem isMax_nil {l : List (ByteArray × Int)} (sl : Srt l) (pl : Pos l) : IsMax l [] l := ⟨sl, pl, fun s => by have := valF_nonneg pl s; simp only [valF]; omega⟩

theorem ent_chain (s d : Sl) : (((((((((((ent 0 Sl.nil Sl.nil s Sl.nil Sl.nil Sl.nil).setIfInBounds 2 (.slice d.a d.n d.cap)).setIfInBounds 6 (.string ⟨#[]⟩)).setIfInBounds 7 (.int .u64 0)).setIfInBounds 8 (.int .i64 0)).setIfInBounds 9 (.string ⟨#[]⟩)).setIfInBounds 4 (.slice d.a d.n d.cap)).setIfInBounds 10 (.string ⟨#[]⟩)).setIfInBounds 11 (.int .u64 0)).setIfInBounds 12 (.int .i64 0)).setIfInBounds 13 (.string ⟨#[]⟩)) = ent 0 Sl.nil d s d Sl.nil Sl.nil := by
  simp [ent, Sl.nil]

set_option maxRecDepth 100000 in
set_option maxHeartbeats 1000000 in
theorem below47 (k : Int) (hk : k = 0 ∨ k = 1 ∨ k = 3) (c m s d ds r : Sl) (ls lds : List (ByteArray × Int)) (w : World) (hs : s.has w ls) (hds : ds.has w lds) (nl : ls.length ≤ 500000) (nd : lds.length ≤ 500000)
    (sl : Srt ls) (pl : Pos ls) (sd : Srt lds) (pd : Pos lds) :
    Calls Try.prog 47 #[.agg (ent k c m s d ds r)] w fun e w' => BelowOf k s d ls lds w' e ∧ Below w.heap.size w w' := by
  have hb1E := One.ent k c m s d ds r
  go_enter Try.func47, Try.ntmps47
  go_wp2_with ((with_reducible refine stop34 ?_ ?_); · exact rfl)
  refine Stop.go (wpList_box_ent _ (by rfl) (by rfl) _ (by rfl) hb1E ?_)
  intro b1 w1 lo1 hi1 he1 hb1
  go_wp2_with ((with_reducible refine stop34 ?_ ?_); · exact rfl)
  refine Stop.go (wpList_alloc_ent (by rfl) (by rfl) ?_)
  intro b2 w2 lo2 hi2 he2 hb2
  have he1' := he1.below hb2
  have f3 : w2.cell? ⟨b1, 3, none⟩ = some (.slice s.a s.n s.cap) := he1'.cell 3
  go_wp2_with ((with_reducible refine stop34 ?_ ?_); · exact rfl)
  refine Stop.go (wpList_alloc_ent (by rfl) (by rfl) ?_)
  intro b3 w3 lo3 hi3 he3 hb3
  have he13 := he1'.below hb3
  have he23 := he2.below hb3
  go_wp2_with ((with_reducible refine stop34 ?_ ?_); · exact rfl)
  refine Stop.go (wpList_store_ent _ _ (by rfl) (by rfl) _ _ (ent 0 Sl.nil Sl.nil s Sl.nil Sl.nil Sl.nil) (by rfl) (by rfl) he3 (One.ent ..) ?_)
  intro w4 he4 ht4
  have he14 := ht4.ent he13 (by omega)
  have he24 := ht4.ent he23 (by omega)
  have hb4 : Below w.heap.size w w4 := ((hb1.trans (hb2.mono (by omega))).trans (hb3.mono (by omega))).trans (ht4.below (by omega))
  clear he1 he2 he3 he1' he13 he23 hb1 hb2 hb3 ht4 f3
  have hs4 := hs.below hb4
  have hds4 := hds.below hb4
  have g3 : w4.cell? ⟨b1, 3, none⟩ = some (.slice s.a s.n s.cap) := he14.cell 3
  have g5 : w4.cell? ⟨b1, 5, none⟩ = some (.slice ds.a ds.n ds.cap) := he14.cell 5
  by_cases hz : 0 < ds.n
  · have HZ : Hid (lds ≠ []) := by intro e; have := hds.1; subst e; simp at this; omega
    go_wp2_with fail
    refine (max18s s ds ls lds _ hs4 hds4 nl nd sl sd pl pd).mono ?_
    rintro e w5 ⟨⟨ls', s', rfl, hs', PL, ISM, LEN⟩, hb5⟩
    have he15 := he14.below hb5
    have he25 := he24.below hb5
    have he35 := he4.below hb5
    have x3 : w5.cell? ⟨b3, 3, none⟩ = some (.slice s.a s.n s.cap) := he35.cell 3
    have x4 : w5.frozen? ⟨b3, 3, none⟩ = false := he35.frozen 3
    have he36 := he35.setCell 3 (.slice s'.a s'.n s'.cap) rfl
    have ht6 := setCell_turned w5 b3 3 (.slice s'.a s'.n s'.cap)
    have heA := ht6.ent he15 (by omega)
    have heB := ht6.ent he25 (by omega)
    have heC : Ent (w5.setCell ⟨b3, 3, none⟩ (.slice s'.a s'.n s'.cap)) b3 (ent 0 Sl.nil Sl.nil s' Sl.nil Sl.nil Sl.nil) := he36
    have hlt4 := he4.lt
    have hbw : Below w.heap.size w (w5.setCell ⟨b3, 3, none⟩ (.slice s'.a s'.n s'.cap)) := (hb4.trans (hb5.mono hb4.size)).trans (ht6.below (by omega))
    have hS6 : s'.has (w5.setCell ⟨b3, 3, none⟩ (.slice s'.a s'.n s'.cap)) ls' := by
      rcases PL with ⟨rfl, rfl⟩ | ⟨g, hg, hge⟩
      · exact hs.below hbw
      · exact hs'.turned ht6 (fun x hx => by rw [hg] at hx; cases hx; show g ≠ b3; omega)
    have STAY : ∀ wx, Below w.heap.size w wx → (Turned (w5.setCell ⟨b3, 3, none⟩ (.slice s'.a s'.n s'.cap)) wx b2 ∨ ∃ wy, Turned (w5.setCell ⟨b3, 3, none⟩ (.slice s'.a s'.n s'.cap)) wy b3 ∧ Turned wy wx b2) → s'.has wx ls' := by
      intro wx hbx hor
      rcases PL with ⟨rfl, rfl⟩ | ⟨g, hg, hge⟩
      · exact hs.below hbx
      · have n3 : ∀ x, s'.a = some x → x.block ≠ b3 := fun x hx => by rw [hg] at hx; cases hx; show g ≠ b3; omega
        have n2 : ∀ x, s'.a = some x → x.block ≠ b2 := fun x hx => by rw [hg] at hx; cases hx; show g ≠ b2; omega
        rcases hor with h | ⟨wy, h1, h2⟩
        · exact hS6.turned h n2
        · exact (hS6.turned h1 n3).turned h2 n2
    have g0 : (w5.setCell ⟨b3, 3, none⟩ (.slice s'.a s'.n s'.cap)).cell? ⟨b1, 0, none⟩ = some (.int .u8 k) := heA.cell 0
    go_wp2_with fail
    clear g0
    generalize w5.setCell ⟨b3, 3, none⟩ (.slice s'.a s'.n s'.cap) = w6 at heA heB heC hbw STAY hS6 ⊢
    clear he15 he25 he35 x3 x4 he36 ht6 hs' he4 he14 he24 hs4 hds4 g3 g5
    by_cases hk1 : k = 1
    · have hd1 : decide (k ≠ 1) = false := by simp [hk1]
      have HK1 : Hid (k = 1) := hk1
      clear hk1
      refine (counts53 k hk _).mono ?_
      rintro e w' ⟨rfl, hw⟩
      rw [hw, hd1]
      clear hd1 hw
      go_wp2_with ((with_reducible refine stop34 ?_ ?_); · exact rfl)
      refine Stop.go (wpList_load_ent _ (by rfl) (by rfl) _ _ (by rfl) heC ?_)
      go_wp2_with ((with_reducible refine stop34 ?_ ?_); · exact rfl)
      refine Stop.go (wpList_store_ent _ _ (by rfl) (by rfl) _ _ _ (by rfl) (by rfl) heB heC.2 ?_)
      intro w8 he8 ht8
      go_wp2_with ((with_reducible refine stop34 ?_ ?_); · exact rfl)
      have hb8 : Below w.heap.size w w8 := hbw.trans (ht8.below (by omega))
      exact bodyPost_ret (results_ent rfl rfl he8) rfl ⟨⟨s', ls', by rw [if_pos HK1.out], STAY _ hb8 (Or.inl ht8), ISM, LEN, fun h => absurd h HZ.out⟩, hb8⟩
    · have hd1 : decide (k ≠ 1) = true := by simp [hk1]
      have HK1 : Hid (¬ k = 1) := hk1
      clear hk1
      have a4 : w6.cell? ⟨b1, 4, none⟩ = some (.slice d.a d.n d.cap) := heA.cell 4
      have a10 : w6.cell? ⟨b1, 10, none⟩ = some (.string ⟨#[]⟩) := heA.cell 10
      have a11 : w6.cell? ⟨b1, 11, none⟩ = some (.int .u64 0) := heA.cell 11
      have a12 : w6.cell? ⟨b1, 12, none⟩ = some (.int .i64 0) := heA.cell 12
      have a13 : w6.cell? ⟨b1, 13, none⟩ = some (.string ⟨#[]⟩) := heA.cell 13
      have c2 : w6.cell? ⟨b3, 2, none⟩ = some (.slice none 0 0) := heC.cell 2
      have c4 : w6.cell? ⟨b3, 4, none⟩ = some (.slice none 0 0) := heC.cell 4
      have c6 : w6.cell? ⟨b3, 6, none⟩ = some (.string ⟨#[]⟩) := heC.cell 6
      have c7 : w6.cell? ⟨b3, 7, none⟩ = some (.int .u64 0) := heC.cell 7
      have c8 : w6.cell? ⟨b3, 8, none⟩ = some (.int .i64 0) := heC.cell 8
      have c9 : w6.cell? ⟨b3, 9, none⟩ = some (.string ⟨#[]⟩) := heC.cell 9
      have c10 : w6.cell? ⟨b3, 10, none⟩ = some (.string ⟨#[]⟩) := heC.cell 10
      have c11 : w6.cell? ⟨b3, 11, none⟩ = some (.int .u64 0) := heC.cell 11
      have c12 : w6.cell? ⟨b3, 12, none⟩ = some (.int .i64 0) := heC.cell 12
      have c13 : w6.cell? ⟨b3, 13, none⟩ = some (.string ⟨#[]⟩) := heC.cell 13
      have cfz : ∀ i, w6.frozen? ⟨b3, i, none⟩ = false := fun i => heC.frozen i
      have hne13 : b3 ≠ b1 := by omega
      refine (counts53 k hk _).mono ?_
      rintro e w' ⟨rfl, hw⟩
      rw [hw, hd1]
      clear hd1 hw
      go_wp2
      go_region_held3 (fun w' => w'.cell? ⟨b1, 4, none⟩ = some (.slice d.a d.n d.cap) ∧ w'.cell? ⟨b1, 10, none⟩ = some (.string ⟨#[]⟩) ∧ w'.cell? ⟨b1, 11, none⟩ = some (.int .u64 0) ∧ w'.cell? ⟨b1, 12, none⟩ = some (.int .i64 0) ∧ w'.cell? ⟨b1, 13, none⟩ = some (.string ⟨#[]⟩)) (go_keep) (fail)
      have heD := ((((((((((heC.setCell 2 (.slice d.a d.n d.cap) rfl).setCell 6 (.string ⟨#[]⟩) rfl).setCell 7 (.int .u64 0) rfl).setCell 8 (.int .i64 0) rfl).setCell 9 (.string ⟨#[]⟩) rfl).setCell 4 (.slice d.a d.n d.cap) rfl).setCell 10 (.string ⟨#[]⟩) rfl).setCell 11 (.int .u64 0) rfl).setCell 12 (.int .i64 0) rfl).setCell 13 (.string ⟨#[]⟩) rfl).drew
      rw [ent_chain] at heD
      have htD := ((((((((((setCell_turned w6 b3 2 (.slice d.a d.n d.cap)).trans (setCell_turned _ b3 6 (.string ⟨#[]⟩))).trans (setCell_turned _ b3 7 (.int .u64 0))).trans (setCell_turned _ b3 8 (.int .i64 0))).trans (setCell_turned _ b3 9 (.string ⟨#[]⟩))).trans (setCell_turned _ b3 4 (.slice d.a d.n d.cap))).trans (setCell_turned _ b3 10 (.string ⟨#[]⟩))).trans (setCell_turned _ b3 11 (.int .u64 0))).trans (setCell_turned _ b3 12 (.int .i64 0))).trans (setCell_turned _ b3 13 (.string ⟨#[]⟩))).drew
      have heE := htD.ent heB (by omega)
      have hltC := heC.lt
      go_wp2_with ((with_reducible refine stop34 ?_ ?_); · exact rfl)
      refine Stop.go (wpList_load_ent _ (by rfl) (by rfl) b3 (ent 0 Sl.nil d s' d Sl.nil Sl.nil) (by rfl) heD ?_)
      go_wp2_with ((with_reducible refine stop34 ?_ ?_); · exact rfl)
      refine Stop.go (wpList_store_ent _ _ (by rfl) (by rfl) b2 _ _ (by rfl) (by rfl) heE (One.ent ..) ?_)
      intro w8 he8 ht8
      go_wp2_with ((with_reducible refine stop34 ?_ ?_); · exact rfl)
      have hb8 : Below w.heap.size w w8 := (hbw.trans (htD.below (by omega))).trans (ht8.below (by omega))
      exact bodyPost_ret (results_ent rfl rfl he8) rfl ⟨⟨s', ls', by rw [if_neg HK1.out], STAY _ hb8 (Or.inr ⟨_, htD, ht8⟩), ISM, LEN, fun h => absurd h HZ.out⟩, hb8⟩
  · have hz0 : decide (0 < ds.n) = false := by simpa using hz
    have HZ : Hid (lds = []) := by
      have := hds.1
      show lds = []
      cases lds with
      | nil => rfl
      | cons x l => simp at this; omega
    have ISM : IsMax ls lds ls := by rw [HZ.out]; exact isMax_nil sl pl
    have LEN : ls.length ≤ ls.length + lds.length := by omega
    have g0 : w4.cell? ⟨b1, 0, none⟩ = some (.int .u8 k) := he14.cell 0
    have hlt4 := he4.lt
    go_wp2_with fail
    clear g0 g3 g5 hs4 hds4
    have STAY : ∀ wx, Below w.heap.size w wx → (Turned w4 wx b2 ∨ ∃ wy, Turned w4 wy b3 ∧ Turned wy wx b2) → s.has wx ls := fun wx hbx _ => hs.below hbx
    have heA := he14
    have heB := he24
    have heC := he4
    have hbw := hb4
    clear he14 he24 he4 hb4
    generalize w4 = w6 at heA heB heC hbw STAY ⊢
    by_cases hk1 : k = 1
    · have hd1 : decide (k ≠ 1) = false := by simp [hk1]
      have HK1 : Hid (k = 1) := hk1
      clear hk1
      refine (counts53 k hk _).mono ?_
      rintro e w' ⟨rfl, hw⟩
      rw [hw, hd1]
      clear hd1 hw
      go_wp2_with ((with_reducible refine stop34 ?_ ?_); · exact rfl)
      refine Stop.go (wpList_load_ent _ (by rfl) (by rfl) _ _ (by rfl) heC ?_)
      go_wp2_with ((with_reducible refine stop34 ?_ ?_); · exact rfl)
      refine Stop.go (wpList_store_ent _ _ (by rfl) (by rfl) _ _ _ (by rfl) (by rfl) heB heC.2 ?_)
      intro w8 he8 ht8
      go_wp2_with ((with_reducible refine stop34 ?_ ?_); · exact rfl)
      have hb8 : Below w.heap.size w w8 := hbw.trans (ht8.below (by omega))
      exact bodyPost_ret (results_ent rfl rfl he8) rfl ⟨⟨s, ls, by rw [if_pos HK1.out], STAY _ hb8 (Or.inl ht8), ISM, LEN, fun _ => rfl⟩, hb8⟩
    · have hd1 : decide (k ≠ 1) = true := by simp [hk1]
      have HK1 : Hid (¬ k = 1) := hk1
      clear hk1
      have a4 : w6.cell? ⟨b1, 4, none⟩ = some (.slice d.a d.n d.cap) := heA.cell 4
      have a10 : w6.cell? ⟨b1, 10, none⟩ = some (.string ⟨#[]⟩) := heA.cell 10
      have a11 : w6.cell? ⟨b1, 11, none⟩ = some (.int .u64 0) := heA.cell 11
      have a12 : w6.cell? ⟨b1, 12, none⟩ = some (.int .i64 0) := heA.cell 12
      have a13 : w6.cell? ⟨b1, 13, none⟩ = some (.string ⟨#[]⟩) := heA.cell 13
      have c2 : w6.cell? ⟨b3, 2, none⟩ = some (.slice none 0 0) := heC.cell 2
      have c4 : w6.cell? ⟨b3, 4, none⟩ = some (.slice none 0 0) := heC.cell 4
      have c6 : w6.cell? ⟨b3, 6, none⟩ = some (.string ⟨#[]⟩) := heC.cell 6
      have c7 : w6.cell? ⟨b3, 7, none⟩ = some (.int .u64 0) := heC.cell 7
      have c8 : w6.cell? ⟨b3, 8, none⟩ = some (.int .i64 0) := heC.cell 8
      have c9 : w6.cell? ⟨b3, 9, none⟩ = some (.string ⟨#[]⟩) := heC.cell 9
      have c10 : w6.cell? ⟨b3, 10, none⟩ = some (.string ⟨#[]⟩) := heC.cell 10
      have c11 : w6.cell? ⟨b3, 11, none⟩ = some (.int .u64 0) := heC.cell 11
      have c12 : w6.cell? ⟨b3, 12, none⟩ = some (.int .i64 0) := heC.cell 12
      have c13 : w6.cell? ⟨b3, 13, none⟩ = some (.string ⟨#[]⟩) := heC.cell 13
      have cfz : ∀ i, w6.frozen? ⟨b3, i, none⟩ = false := fun i => heC.frozen i
      have hne13 : b3 ≠ b1 := by omega
      refine (counts53 k hk _).mono ?_
      rintro e w' ⟨rfl, hw⟩
      rw [hw, hd1]
      clear hd1 hw
      go_wp2
      go_region_held3 (fun w' => w'.cell? ⟨b1, 4, none⟩ = some (.slice d.a d.n d.cap) ∧ w'.cell? ⟨b1, 10, none⟩ = some (.string ⟨#[]⟩) ∧ w'.cell? ⟨b1, 11, none⟩ = some (.int .u64 0) ∧ w'.cell? ⟨b1, 12, none⟩ = some (.int .i64 0) ∧ w'.cell? ⟨b1, 13, none⟩ = some (.string ⟨#[]⟩)) (go_keep) (fail)
      have heD := ((((((((((heC.setCell 2 (.slice d.a d.n d.cap) rfl).setCell 6 (.string ⟨#[]⟩) rfl).setCell 7 (.int .u64 0) rfl).setCell 8 (.int .i64 0) rfl).setCell 9 (.string ⟨#[]⟩) rfl).setCell 4 (.slice d.a d.n d.cap) rfl).setCell 10 (.string ⟨#[]⟩) rfl).setCell 11 (.int .u64 0) rfl).setCell 12 (.int .i64 0) rfl).setCell 13 (.string ⟨#[]⟩) rfl).drew
      rw [ent_chain] at heD
      have htD := ((((((((((setCell_turned w6 b3 2 (.slice d.a d.n d.cap)).trans (setCell_turned _ b3 6 (.string ⟨#[]⟩))).trans (setCell_turned _ b3 7 (.int .u64 0))).trans (setCell_turned _ b3 8 (.int .i64 0))).trans (setCell_turned _ b3 9 (.string ⟨#[]⟩))).trans (setCell_turned _ b3 4 (.slice d.a d.n d.cap))).trans (setCell_turned _ b3 10 (.string ⟨#[]⟩))).trans (setCell_turned _ b3 11 (.int .u64 0))).trans (setCell_turned _ b3 12 (.int .i64 0))).trans (setCell_turned _ b3 13 (.string ⟨#[]⟩))).drew
      have heE := htD.ent heB (by omega)
      have hltC := heC.lt
      go_wp2_with ((with_reducible refine stop34 ?_ ?_); · exact rfl)
      refine Stop.go (wpList_load_ent _ (by rfl) (by rfl) b3 (ent 0 Sl.nil d s d Sl.nil Sl.nil) (by rfl) heD ?_)
      go_wp2_with ((with_reducible refine stop34 ?_ ?_); · exact rfl)
      refine Stop.go (wpList_store_ent _ _ (by rfl) (by rfl) b2 _ _ (by rfl) (by rfl) heE (One.ent ..) ?_)
      intro w8 he8 ht8
      go_wp2_with ((with_reducible refine stop34 ?_ ?_); · exact rfl)
      have hb8 : Below w.heap.size w w8 := (hbw.trans (htD.below (by omega))).trans (ht8.below (by omega))
      exact bodyPost_ret (results_ent rfl rfl he8) rfl ⟨⟨s, ls, by rw [if_neg HK1.out], STAY _ hb8 (Or.inr ⟨_, htD, ht8⟩), ISM, LEN, fun _ => rfl⟩, hb8⟩

end Go.Proofs.Qxb6612745a
