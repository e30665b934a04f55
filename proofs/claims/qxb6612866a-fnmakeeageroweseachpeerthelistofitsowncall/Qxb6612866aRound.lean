/- The node through the two rounds of makeEager. -/
import Derived.Test.Qxb6612866aMarks
namespace Go.Proofs.Qxb6612866a
open Go.RowKit

theorem KeptBut3.row {w w' : World} {bn : Nat} {lz ow : Value} {a : Option Addr} {l : List Int} (h : KeptBut3 w w' bn lz ow) (hr : Row w a l) (h1 : Off a bn) (h2 : ∀ g, blockOf lz = some g → Off a g) (h3 : ∀ m, ow = .map (some m) → ∃ n f, Maps w m n f) : Row w' a l := by
  intro i hi
  obtain ⟨b', off, e, c⟩ := hr i hi
  have hlt : b' < w.heap.size := World.block_lt_of_cell? _ _ c
  refine ⟨b', off, e, ?_⟩
  rw [World.cell?_of_block (w := w) (a := ⟨b', off + i, none⟩) (h.2 b' hlt (h1 _ e) (fun he => h2 b' he _ e rfl) (fun he => ?_))]
  · exact c
  · obtain ⟨n, f, es, clock, hm, _⟩ := h3 b' he
    simp [World.cell?, hm] at c

theorem KeptBut3.flags {w w' : World} {bn gw : Nat} {lz ow : Value} {G : List Bool} (h : KeptBut3 w w' bn lz ow) (hr : Flags w gw G) (h1 : gw ≠ bn) (h2 : blockOf lz ≠ some gw) (h3 : ow ≠ .map (some gw)) : Flags w' gw G := by
  have hlt := hr.lt
  obtain ⟨C, c0, c1⟩ := hr
  exact ⟨C, (h.2 gw hlt h1 h2 h3).trans c0, c1⟩

/-- The debt at s is as D says: a row of its own, apart from the node, from its lazy flags and from the unannounced list. -/
def DebtAt (w : World) (bn : Nat) (lz : Value) (au : Option Addr) (x : Option Value) (d : Option (List Int)) : Prop :=
  match d with
  | none => x = none
  | some us => ∃ g c, x = some (.slice (some ⟨g, 0, none⟩) us.length c) ∧ Row w (some ⟨g, 0, none⟩) us ∧ g ≠ bn ∧ blockOf lz ≠ some g ∧ g < w.heap.size ∧ Off au g

/-- The block K, if there is one, is a row that lies apart from the node and from its lazy flags. -/
def Apart (w : World) (bn : Nat) (lz : Value) (K : Option Nat) : Prop := ∀ g, K = some g → (∃ C t, w.heap[g]? = some (.cells C t (0, 0))) ∧ g ≠ bn ∧ blockOf lz ≠ some g

/-- The node with its neighbours l; its lazy peers are as P says; its unannounced payloads u (at au); its debts as D says, n of them. The row K lies apart. -/
def St3 (B bn gn cn : Nat) (l : List Int) (au : Option Addr) (cu : Nat) (u : List Int) (P : Int → Prop) (n : Nat) (D : Int → Option (List Int)) (K : Option Nat) (w : World) : Prop :=
  ∃ (lz ow : Value) (F : List Bool) (f : Int → Option Value), Nd w bn (.slice (some ⟨gn, 0, none⟩) l.length cn) lz (.slice au u.length cu) ow ∧ Lz w B bn (some ⟨gn, 0, none⟩) lz F ∧ Row w (some ⟨gn, 0, none⟩) l ∧ Marks l P F ∧
    Row w au u ∧ Off au bn ∧ (∀ g, blockOf lz = some g → Off au g) ∧ (∀ x, au = some x → x.block < w.heap.size) ∧ Ow w B bn lz ow n f ∧ (∀ s, DebtAt w bn lz au (f s) (D s)) ∧ Apart w bn lz K

/-- Is y a neighbour that P marks? -/
def LazyIn (l : List Int) (P : Int → Prop) (y : Int) : Prop := (∃ k, Found l y k ∧ k < l.length ∧ at_ l k = y) ∧ P y

theorem isLazy_iff {l : List Int} {P : Int → Prop} {F : List Bool} {y : Int} (h : Marks l P F) : IsLazy l F y ↔ LazyIn l P y := by
  constructor
  · rintro ⟨k, h1, h2, h3, h4⟩
    exact ⟨⟨k, h1, h2, h3⟩, by have := (h.2 k h2).1 h4; rwa [h3] at this⟩
  · rintro ⟨⟨k, h1, h2, h3⟩, h4⟩
    exact ⟨k, h1, h2, h3, (h.2 k h2).2 (by rw [h3]; exact h4)⟩

/-- y is no lazy peer: to take it off changes nothing. -/
theorem Marks.off {l : List Int} {P : Int → Prop} {F : List Bool} {y : Int} (h : Marks l P F) (ha : Asc l) (hn : ¬ IsLazy l F y) : Marks l (fun x => if x = y then false = true else P x) F := by
  refine ⟨h.1, fun i hi => ?_⟩
  by_cases he : at_ l i = y
  · simp only [he, if_true]
    constructor
    · intro hb
      refine absurd ⟨i, ⟨by omega, fun j hj => ?_, fun j h1 h2 => ?_⟩, hi, he, hb⟩ hn
      · rw [← he]; exact ha.lt hj hi
      · rw [← he]
        rcases Nat.eq_or_lt_of_le h1 with rfl | h1
        · exact Int.le_refl _
        · exact Int.le_of_lt (ha.lt h1 h2)
    · intro h; cases h
  · simp only [he, if_false]
    exact h.2 i hi

theorem Ow.maps {w : World} {B bn n : Nat} {lz ow : Value} {f : Int → Option Value} (h : Ow w B bn lz ow n f) : ∀ m, ow = .map (some m) → ∃ n f, Maps w m n f := by
  intro m hm
  rcases h with ⟨rfl, _⟩ | ⟨gm, rfl, _, _, _, h4⟩
  · cases hm
  · cases hm; exact ⟨n, f, h4⟩

theorem LzNext.ne {w : World} {lz lz' : Value} {g : Nat} (h : LzNext w lz lz') (hg : g < w.heap.size) (hn : blockOf lz ≠ some g) : blockOf lz' ≠ some g := by
  rcases h with h | ⟨g', h, hg'⟩
  · rw [h]; exact hn
  · rw [h]; intro e; cases e; omega

theorem DebtAt.kept {w w' : World} {bn : Nat} {lz lz' ow : Value} {au : Option Addr} {x : Option Value} {d : Option (List Int)} (h : DebtAt w bn lz au x d) (hk : KeptBut3 w w' bn lz ow) (hx : LzNext w lz lz') (hm : ∀ m, ow = .map (some m) → ∃ n f, Maps w m n f) : DebtAt w' bn lz' au x d := by
  cases d with
  | none => exact h
  | some us =>
    obtain ⟨g, c, e, h1, h2, h3, h4, h5⟩ := h
    exact ⟨g, c, e, hk.row h1 (fun x hx => by cases hx; exact h2) (fun g' hg' x hx => by cases hx; intro e; exact h3 (by rw [hg']; exact congrArg some e.symm)) hm, h2, hx.ne h4 h3, Nat.lt_of_lt_of_le h4 hk.1, h5⟩

theorem lt_of_block {w : World} {g : Nat} {o : Obj} (h : w.heap[g]? = some o) : g < w.heap.size := by
  rcases Nat.lt_or_ge g w.heap.size with h' | h'
  · exact h'
  · rw [Array.getElem?_eq_none h'] at h; cases h

theorem Apart.same {w w' : World} {bn : Nat} {lz ow : Value} {K : Option Nat} {g : Nat} (h : Apart w bn lz K) (hk : KeptBut3 w w' bn lz ow) (hm : ∀ m, ow = .map (some m) → ∃ n f, Maps w m n f) (hg : K = some g) : w'.heap[g]? = w.heap[g]? := by
  obtain ⟨⟨C, t, h1⟩, h2, h3⟩ := h g hg
  refine hk.2 g (lt_of_block h1) h2 h3 (fun e => ?_)
  obtain ⟨n, f, es, clock, hM, _⟩ := hm g e
  rw [h1] at hM; cases hM

theorem Apart.kept {w w' : World} {bn : Nat} {lz lz' ow : Value} {K : Option Nat} (h : Apart w bn lz K) (hk : KeptBut3 w w' bn lz ow) (hx : LzNext w lz lz') (hm : ∀ m, ow = .map (some m) → ∃ n f, Maps w m n f) : Apart w' bn lz' K := by
  intro g hg
  have hs := h.same hk hm hg
  obtain ⟨⟨C, t, h1⟩, h2, h3⟩ := h g hg
  exact ⟨⟨C, t, hs.trans h1⟩, h2, hx.ne (lt_of_block h1) h3⟩

section
variable {B bn gn cn : Nat} {l : List Int} {au : Option Addr} {cu : Nat} {u : List Int} {P : Int → Prop} {n : Nat} {D : Int → Option (List Int)} {K : Option Nat} {w w' : World}

theorem Row.lt0 {w : World} {g : Nat} {l : List Int} (h : Row w (some ⟨g, 0, Option.none⟩) l) (hl : 0 < l.length) : g < w.heap.size := by
  obtain ⟨b', off, e, c'⟩ := h 0 hl
  cases e
  exact World.block_lt_of_cell? _ _ c'

theorem DebtAt.below {w w' : World} {bn : Nat} {lz : Value} {au : Option Addr} {x : Option Value} {d : Option (List Int)} (h : DebtAt w bn lz au x d) (hb : Below w.heap.size w w') : DebtAt w' bn lz au x d := by
  cases d with
  | none => exact h
  | some us =>
    obtain ⟨g, c, e, h1, h2, h3, h4, h5⟩ := h
    exact ⟨g, c, e, h1.below hb, h2, h3, Nat.lt_of_lt_of_le h4 hb.size, h5⟩
theorem Ow.below {w w' : World} {lz ow : Value} {f : Int → Option Value} (h : Ow w B bn lz ow n f) (hb : Below w.heap.size w w') : Ow w' B bn lz ow n f := by
  rcases h with h | ⟨gm, h1, h2, h3, h4, h5⟩
  · exact Or.inl h
  · exact Or.inr ⟨gm, h1, h2, h3, h4, h5.below hb⟩
theorem Apart.below {w w' : World} {lz : Value} (h : Apart w bn lz K) (hb : Below w.heap.size w w') : Apart w' bn lz K := by
  intro g hg
  obtain ⟨⟨C, t, h1⟩, h2, h3⟩ := h g hg
  exact ⟨⟨C, t, (hb.block g (lt_of_block h1)).trans h1⟩, h2, h3⟩
theorem St3.below (h : St3 B bn gn cn l au cu u P n D K w) (hb : Below w.heap.size w w') : St3 B bn gn cn l au cu u P n D K w' := by
  obtain ⟨lz, ow, F, f, h1, h2, h3, h4, h5, h6, h7, h8, h9, h10, h11⟩ := h
  exact ⟨lz, ow, F, f, h1.below hb, h2.below hb, h3.below hb, h4, h5.below hb, h6, h7, fun x hx => Nat.lt_of_lt_of_le (h8 x hx) hb.size, h9.below hb, fun s => (h10 s).below hb, h11.below hb⟩
theorem St3.congr (h : St3 B bn gn cn l au cu u P n D K w) {P' : Int → Prop} (hP : ∀ x, P x ↔ P' x) {D' : Int → Option (List Int)} (hD : ∀ s, D s = D' s) : St3 B bn gn cn l au cu u P' n D' K w := by
  obtain ⟨lz, ow, F, f, h1, h2, h3, h4, h5, h6, h7, h8, h9, h10, h11⟩ := h
  exact ⟨lz, ow, F, f, h1, h2, h3, h4.congr hP, h5, h6, h7, h8, h9, fun s => by rw [← hD s]; exact h10 s, h11⟩
theorem St3.lt (h : St3 B bn gn cn l au cu u P n D K w) : bn < w.heap.size := by
  obtain ⟨lz, ow, F, f, h1, _⟩ := h
  exact h1.lt
/-- A row that is made later lies apart. -/
theorem St3.aside (h : St3 B bn gn cn l au cu u P n D none w) (hb : Below w.heap.size w w') {gw : Nat} {G : List Bool} (hg : w.heap.size ≤ gw) (hF : Flags w' gw G) : St3 B bn gn cn l au cu u P n D (some gw) w' := by
  obtain ⟨lz, ow, F, f, h1, h2, h3, h4, h5, h6, h7, h8, h9, h10, h11⟩ := h
  have hlt := h1.lt
  refine ⟨lz, ow, F, f, h1.below hb, h2.below hb, h3.below hb, h4, h5.below hb, h6, h7, fun x hx => Nat.lt_of_lt_of_le (h8 x hx) hb.size, h9.below hb, fun s => (h10 s).below hb, fun g he => ?_⟩
  cases he
  refine ⟨?_, by omega, fun e => ?_⟩
  · obtain ⟨C, c0, _⟩ := hF
    exact ⟨C, 4, c0⟩
  · have := h2.lt e; omega
end

set_option maxHeartbeats 400000 in
theorem eagerSt (B bn gn cn : Nat) (l : List Int) (au : Option Addr) (cu : Nat) (u : List Int) (P : Int → Prop) (n : Nat) (D : Int → Option (List Int)) (K : Option Nat) (y : Int) (w : World) (hB : B ≤ bn) (hgn : gn ≠ bn) (ha : Asc l) (hl : l.length ≤ 1000000) (hul : u.length ≤ 1000000)
    (hS : St3 B bn gn cn l au cu u P n D K w) (hD : LazyIn l P y → D y = none) :
    Calls Try.prog 13 #[.pointer (some ⟨bn, 0, none⟩), .int .i64 y] w fun e w' => Done e ∧ Below B w w' ∧ (∀ g, K = some g → w'.heap[g]? = w.heap[g]?) ∧
      ((¬ (LazyIn l P y ∧ u ≠ []) ∧ St3 B bn gn cn l au cu u (fun x => if x = y then false = true else P x) n D K w') ∨
       ((LazyIn l P y ∧ u ≠ []) ∧ St3 B bn gn cn l au cu u (fun x => if x = y then false = true else P x) (n + 1) (fun s => if s = y then some u else D s) K w')) := by
  obtain ⟨lz, ow, F, f, h1, h2, h3, h4, h5, h6, h7, h8, h9, h10, h11⟩ := hS
  have hf : IsLazy l F y → f y = none := fun hz => by
    have := h10 y
    rw [hD ((isLazy_iff h4).1 hz)] at this
    exact this
  refine (eager13 B bn _ au cn cu lz ow l F u y n f w hB (fun x hx => by cases hx; exact hgn) h1 h3 ha hl h4.1 h2 h5 hul h6 h7 h9 hf).mono ?_
  rintro e w' ⟨he, hb, hk, lz', ow', F', n', f', k1, k2, k3, k4, k5, k6⟩
  have hm := h9.maps
  have r1 := hk.row h5 h6 h7 hm
  have r2 : ∀ g, blockOf lz' = some g → Off au g := by
    intro g hg x hx
    rcases k5 with e | ⟨g', e, hg'⟩
    · exact h7 g (by rw [← e]; exact hg) x hx
    · rw [e] at hg; cases hg
      have := h8 x hx
      omega
  have r3 : ∀ x, au = some x → x.block < w'.heap.size := fun x hx => Nat.lt_of_lt_of_le (h8 x hx) hk.1
  have r4 := fun s => (h10 s).kept hk k5 hm
  have r5 := h11.kept hk k5 hm
  refine ⟨he, hb, fun g hg => h11.same hk hm hg, ?_⟩
  rcases k6 with ⟨q1, rfl, rfl, rfl⟩ | ⟨q1, q2, q3⟩
  · exact Or.inl ⟨fun h => q1 ((isLazy_iff h4).2 h.1), lz', ow', F', f', k1, k2, k4, h4.off ha q1, r1, h6, r2, r3, k3, r4, r5⟩
  · have m1 := h4.setF ha q2
    rcases q3 with ⟨rfl, rfl, rfl⟩ | ⟨q3, rfl, g, c, rfl, q4, q6, q5⟩
    · exact Or.inl ⟨fun h => h.2 rfl, lz', ow', F', f', k1, k2, k4, m1, r1, h6, r2, r3, k3, r4, r5⟩
    · refine Or.inr ⟨⟨(isLazy_iff h4).1 q1, q3⟩, lz', ow', F', _, k1, k2, k4, m1, r1, h6, r2, r3, k3, fun s => ?_, r5⟩
      by_cases hs : s = y
      · simp only [hs, if_true]
        have hlt := h1.lt
        have hu0 : 0 < u.length := by
          cases u with
          | nil => exact absurd rfl q3
          | cons x u => simp
        exact ⟨g, c, rfl, q5, by omega, q6, q5.lt0 hu0, fun x hx => by have := h8 x hx; omega⟩
      · simp only [hs, if_false]
        exact r4 s

/-- The unannounced list is laid anew. -/
theorem unStT (B bn gn cn : Nat) (l : List Int) (au : Option Addr) (cu : Nat) (u : List Int) (P : Int → Prop) (n : Nat) (D : Int → Option (List Int)) (au2 : Option Addr) (cu2 : Nat) (u2 : List Int) (wr v1 : World) (hB : B ≤ bn) (hgn : gn ≠ bn)
    (hS : St3 B bn gn cn l au cu u P n D none wr) (hb : Below wr.heap.size wr v1) (hr : Row v1 au2 u2) (ha : ∀ x, au2 = some x → wr.heap.size ≤ x.block ∧ x.block < v1.heap.size) :
    Calls Try.prog 10 #[.pointer (some ⟨bn, 0, none⟩), .slice au2 u2.length cu2] v1 fun e w' => Done e ∧ Below B v1 w' ∧ Turned v1 w' bn ∧ St3 B bn gn cn l au2 cu2 u2 P n D none w' := by
  have hlt := hS.lt
  have hlz : ∀ {lz F}, Lz wr B bn (some ⟨gn, 0, none⟩) lz F → ∀ g, blockOf lz = some g → g < wr.heap.size := fun h g hg => h.lt hg
  obtain ⟨lz, ow, F, f, h1, h2, h3, h4, h5, h6, h7, h8, h9, h10, h11⟩ := hS
  refine (setUn10 bn _ lz _ _ au2 u2.length cu2 v1 (h1.below hb)).mono ?_
  rintro e v2 ⟨he, hT, hN2⟩
  refine ⟨he, hT.below hB, hT, lz, ow, F, f, hN2, (h2.below hb).turned hT (fun h => ?_), hT.row (h3.below hb) (fun x hx => by cases hx; exact hgn), h4, hT.row hr (fun x hx => ?_), fun x hx => ?_, fun g hg x hx => ?_, fun x hx => ?_, ?_, fun s => ?_, fun g hg => by cases hg⟩
  · rcases h2 with ⟨rfl, _⟩ | ⟨g, rfl, _, h3, _⟩
    · cases h
    · cases h; exact h3 rfl
  · have := (ha x hx).1; omega
  · have := (ha x hx).1; omega
  · have := (ha x hx).1
    have := hlz h2 g hg
    omega
  · rw [hT.size]; exact (ha x hx).2
  · rcases h9 with h | ⟨gm, g1, g2, g3, g4, g5⟩
    · exact Or.inl h
    · exact Or.inr ⟨gm, g1, g2, g3, g4, (g5.below hb).of_block (hT.block gm g3)⟩
  · have hs := h10 s
    cases hd : D s with
    | none => rw [hd] at hs; exact hs
    | some us =>
      rw [hd] at hs
      obtain ⟨g, c, e, q1, q2, q3, q4, q5⟩ := hs
      refine ⟨g, c, e, hT.row (q1.below hb) (fun x hx => by cases hx; exact q2), q2, q3, ?_, fun x hx => ?_⟩
      · rw [hT.size]; exact Nat.lt_of_lt_of_le q4 hb.size
      · have := (ha x hx).1; omega

theorem unSt (B bn gn cn : Nat) (l : List Int) (au : Option Addr) (cu : Nat) (u : List Int) (P : Int → Prop) (n : Nat) (D : Int → Option (List Int)) (au2 : Option Addr) (cu2 : Nat) (u2 : List Int) (wr v1 : World) (hB : B ≤ bn) (hgn : gn ≠ bn)
    (hS : St3 B bn gn cn l au cu u P n D none wr) (hb : Below wr.heap.size wr v1) (hr : Row v1 au2 u2) (ha : ∀ x, au2 = some x → wr.heap.size ≤ x.block ∧ x.block < v1.heap.size) :
    Calls Try.prog 10 #[.pointer (some ⟨bn, 0, none⟩), .slice au2 u2.length cu2] v1 fun e w' => Done e ∧ Below B v1 w' ∧ St3 B bn gn cn l au2 cu2 u2 P n D none w' := by
  refine (unStT B bn gn cn l au cu u P n D au2 cu2 u2 wr v1 hB hgn hS hb hr ha).mono ?_
  rintro e w' ⟨h1, h2, _, h4⟩
  exact ⟨h1, h2, h4⟩

/-- What is read off as the lazy flags. -/
def LzIs (B bn gn : Nat) (l : List Int) (P : Int → Prop) (lz : Value) (w : World) : Prop := ∃ F, Lz w B bn (some ⟨gn, 0, none⟩) lz F ∧ Marks l P F

theorem lazySt {B bn gn cn : Nat} {l : List Int} {au : Option Addr} {cu : Nat} {u : List Int} {P : Int → Prop} {n : Nat} {D : Int → Option (List Int)} {K : Option Nat} {w : World} (hS : St3 B bn gn cn l au cu u P n D K w) :
    Calls Try.prog 15 #[.pointer (some ⟨bn, 0, none⟩)] w fun e w' => (∃ lz, e = .returned lz ∧ LzIs B bn gn l P lz w) ∧ w' = w := by
  obtain ⟨lz, ow, F, f, h1, h2, h3, h4, h5, h6, h7, h8, h9, h10, h11⟩ := hS
  refine (lazy15 bn _ lz _ _ w h1).mono ?_
  rintro e w' ⟨he, hw⟩
  exact ⟨⟨lz, he, F, h2, h4⟩, hw⟩

theorem matchSt (B bn gn : Nat) (l : List Int) (P : Int → Prop) (lz : Value) (gw : Nat) (cw : Nat) (G : List Bool) (w : World) (hl : l.length ≤ 1000000) (h : LzIs B bn gn l P lz w) (hF : Flags w gw G) (hG : Marks l P G) :
    Calls Try.prog 14 #[lz, .slice (some ⟨gw, 0, none⟩) l.length cw] w fun e w' => e = .returned (.bool true) ∧ Below w.heap.size w w' := by
  obtain ⟨F, h1, h2⟩ := h
  rw [← hG.1]
  refine (match14 B bn _ _ cw lz F G w h1 hF.row (by rw [hG.1]; exact hl) (h2.1.trans hG.1.symm)).mono ?_
  rintro e w' ⟨he, hb⟩
  rw [decide_eq_true (h2.eq hG)] at he
  exact ⟨he, hb⟩

theorem owedNone {B bn gn cn : Nat} {l : List Int} {au : Option Addr} {cu : Nat} {u : List Int} {P : Int → Prop} {n : Nat} {D : Int → Option (List Int)} {K : Option Nat} {w : World} (hS : St3 B bn gn cn l au cu u P n D K w) (y : Int) (hD : D y = none) :
    Calls Try.prog 16 #[.pointer (some ⟨bn, 0, none⟩), .int .i64 y] w fun e w' => e = .returned (.tuple #[.slice none 0 0, .bool false]) ∧ w' = w := by
  obtain ⟨lz, ow, F, f, h1, h2, h3, h4, h5, h6, h7, h8, h9, h10, h11⟩ := hS
  have hy := h10 y
  rw [hD] at hy
  have hy : f y = none := hy
  rcases h9 with ⟨rfl, _⟩ | ⟨gm, rfl, _, _, _, hm⟩
  · exact owed16n bn _ lz _ y w h1
  · have := owed16s bn gm n _ lz _ f y w h1 hm
    rw [hy] at this
    exact this

theorem owedSome {B bn gn cn : Nat} {l : List Int} {au : Option Addr} {cu : Nat} {u : List Int} {P : Int → Prop} {n : Nat} {D : Int → Option (List Int)} {K : Option Nat} {w : World} (hS : St3 B bn gn cn l au cu u P n D K w) (y : Int) {us : List Int} (hD : D y = some us) :
    Calls Try.prog 16 #[.pointer (some ⟨bn, 0, none⟩), .int .i64 y] w fun e w' => (∃ g c, e = .returned (.tuple #[.slice (some ⟨g, 0, none⟩) us.length c, .bool true]) ∧ Row w (some ⟨g, 0, none⟩) us) ∧ w' = w := by
  obtain ⟨lz, ow, F, f, h1, h2, h3, h4, h5, h6, h7, h8, h9, h10, h11⟩ := hS
  have hy := h10 y
  rw [hD] at hy
  obtain ⟨g, c, e, q1, _⟩ := hy
  rcases h9 with ⟨_, _, h⟩ | ⟨gm, rfl, _, _, _, hm⟩
  · rw [h y] at e; cases e
  · have := owed16s bn gm n _ lz _ f y w h1 hm
    rw [e] at this
    refine this.mono ?_
    rintro e w' ⟨he, hw⟩
    exact ⟨⟨g, c, he, q1⟩, hw⟩

theorem owedLenSt {B bn gn cn : Nat} {l : List Int} {au : Option Addr} {cu : Nat} {u : List Int} {P : Int → Prop} {n : Nat} {D : Int → Option (List Int)} {K : Option Nat} {w : World} (hS : St3 B bn gn cn l au cu u P n D K w) (hn : n ≤ 2) :
    Calls Try.prog 18 #[.pointer (some ⟨bn, 0, none⟩)] w fun e w' => e = .returned (.int .i64 n) ∧ w' = w := by
  obtain ⟨lz, ow, F, f, h1, h2, h3, h4, h5, h6, h7, h8, h9, h10, h11⟩ := hS
  rcases h9 with ⟨rfl, rfl, _⟩ | ⟨gm, rfl, _, _, _, hm⟩
  · exact owedLen18n bn _ lz _ w h1
  · exact owedLen18s bn gm n _ lz _ f w h1 hm hn

end Go.Proofs.Qxb6612866a
