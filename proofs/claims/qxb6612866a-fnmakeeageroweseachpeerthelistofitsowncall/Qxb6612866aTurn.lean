/- The unannounced list changed in place, and a second peer made eager. -/
import Derived.Test.Qxb6612866aW3
namespace Go.Proofs.Qxb6612866a
open Go.RowKit

theorem at_set {l : List Int} {i j : Nat} {v : Int} (hi : i < l.length) : at_ (l.set i v) j = if j = i then v else at_ l j := by
  unfold at_
  by_cases h : j = i
  · subst h; simp [hi]
  · have h' : ¬ i = j := fun e => h e.symm
    simp [h, h']

theorem Filled.set {w : World} {t : TypeId} {g n : Nat} {l : List Int} (h : Filled w t g n l.length l) {i : Nat} (hi : i < l.length) (hn : l.length ≤ n) (v : Int) : Filled (w.setCell ⟨g, i, none⟩ (.int .i64 v)) t g n (l.set i v).length (l.set i v) := by
  obtain ⟨cur, hb, hs, hc⟩ := h
  refine ⟨cur.setIfInBounds i (.int .i64 v), ?_, by simp [hs], fun j hj => ?_⟩
  · simp [World.setCell, Array.getElem?_modify, hb]
  · rw [List.length_set] at hj
    rw [at_set hi]
    by_cases hij : j = i
    · subst hij
      simp [Array.getElem?_setIfInBounds, hs]
      omega
    · rw [Array.getElem?_setIfInBounds_ne (by omega), if_neg hij]
      exact hc j hj

/-- The list at au is a row of its own, made later than the neighbours. -/
def Own (B gn : Nat) (l : List Int) (au : Option Addr) (u : List Int) (w : World) : Prop :=
  ∀ x, au = some x → ∃ g n, x = ⟨g, 0, none⟩ ∧ B ≤ g ∧ (l = [] ∨ gn ≠ g) ∧ u.length ≤ n ∧ Filled w 3 g n u.length u

theorem Own.of_block {B gn : Nat} {l : List Int} {au : Option Addr} {u : List Int} {w w' : World} (h : Own B gn l au u w) (hs : ∀ x, au = some x → w'.heap[x.block]? = w.heap[x.block]?) : Own B gn l au u w' := by
  intro x hx
  obtain ⟨g, n, e, h1, h2, h3, cur, hb, hc⟩ := h x hx
  have := hs x hx
  subst e
  exact ⟨g, n, rfl, h1, h2, h3, cur, this.trans hb, hc⟩

section
variable {B bn gn cn : Nat} {l : List Int} {au : Option Addr} {cu : Nat} {u : List Int} {P : Int → Prop} {n : Nat} {D : Int → Option (List Int)} {K : Option Nat} {w w' : World}

theorem St3.keep (h : St3 B bn gn cn l au cu u P n D none w) (ho : Own B gn l au u w) : St3 B bn gn cn l au cu u P n D (au.map (·.block)) w := by
  obtain ⟨lz, ow, F, f, h1, h2, h3, h4, h5, h6, h7, h8, h9, h10, h11⟩ := h
  refine ⟨lz, ow, F, f, h1, h2, h3, h4, h5, h6, h7, h8, h9, h10, fun g hg => ?_⟩
  cases au with
  | none => cases hg
  | some x =>
    simp only [Option.map_some, Option.some.injEq] at hg
    subst hg
    obtain ⟨g, k, e, _, _, _, cur, hb, _⟩ := ho x rfl
    subst e
    exact ⟨⟨cur, 3, hb⟩, h6 _ rfl, fun e => h7 g e _ rfl rfl⟩

theorem St3.drop (h : St3 B bn gn cn l au cu u P n D K w) : St3 B bn gn cn l au cu u P n D none w := by
  obtain ⟨lz, ow, F, f, h1, h2, h3, h4, h5, h6, h7, h8, h9, h10, h11⟩ := h
  exact ⟨lz, ow, F, f, h1, h2, h3, h4, h5, h6, h7, h8, h9, h10, fun g hg => by cases hg⟩

theorem St3.write (h : St3 B bn gn cn l au cu u P n D none w) (ho : Own B gn l au u w) {g i : Nat} (hg : au = some ⟨g, 0, none⟩) (hi : i < u.length) (v : Int) (hw : w' = w.setCell ⟨g, i, none⟩ (.int .i64 v)) :
    St3 B bn gn cn l au cu (u.set i v) P n D none w' ∧ Own B gn l au (u.set i v) w' := by
  obtain ⟨lz, ow, F, f, h1, h2, h3, h4, h5, h6, h7, h8, h9, h10, h11⟩ := h
  have hT : Turned w w' g := by rw [hw]; exact setCell_turned ..
  obtain ⟨g', k, e, q1, q2, q3, q4⟩ := ho _ hg
  cases e
  have q5 : Filled w' 3 g k (u.set i v).length (u.set i v) := by rw [hw]; exact q4.set hi q3 v
  refine ⟨⟨lz, ow, F, f, ?_, h2.turned hT (fun e => h7 g e _ hg rfl), ?_, h4, by rw [hg]; exact q5.row, h6, h7, fun x hx => by rw [hT.size]; exact h8 x hx, ?_, fun s => ?_, fun g hg => by cases hg⟩, fun x hx => ?_⟩
  · rw [List.length_set]
    exact h1.turned hT (fun e => h6 _ hg e.symm)
  · rcases q2 with rfl | q2
    · exact Row.nil _ _
    · exact hT.row h3 (fun x hx => by cases hx; exact q2)
  · rcases h9 with h | ⟨gm, g1, g2, g3, g4, g5⟩
    · exact Or.inl h
    · refine Or.inr ⟨gm, g1, g2, g3, g4, g5.of_block (hT.block gm ?_)⟩
      rintro rfl
      obtain ⟨es, clock, hm, _⟩ := g5
      obtain ⟨cur, hb, _⟩ := q4
      rw [hm] at hb; cases hb
  · have hs := h10 s
    cases hd : D s with
    | none => rw [hd] at hs; exact hs
    | some us =>
      rw [hd] at hs
      obtain ⟨g2, c, e, r1, r2, r3, r4, r5⟩ := hs
      exact ⟨g2, c, e, hT.row r1 (fun x hx => by cases hx; exact fun e => r5 _ hg e.symm), r2, r3, by rw [hT.size]; exact r4, r5⟩
  · rw [hg] at hx
    cases hx
    exact ⟨g, k, rfl, q1, q2, by rw [List.length_set]; exact q3, q5⟩
end

/-- After the first call, the unannounced list being u' by now. -/
def Af1 (B bn gn cn : Nat) (l : List Int) (au : Option Addr) (cu : Nat) (u' : List Int) (P : Int → Prop) (p : Int) (op : Bool) (u1 : List Int) (w : World) : Prop :=
  St3 B bn gn cn l au cu u' (Less P p) op.toNat (fun s => if s = p ∧ op = true then some u1 else none) none w
/-- After the second call. -/
def Af2 (B bn gn cn : Nat) (l : List Int) (au : Option Addr) (cu : Nat) (u2 : List Int) (P : Int → Prop) (p : Int) (op : Bool) (u1 : List Int) (q : Int) (oq : Bool) (w : World) : Prop :=
  St3 B bn gn cn l au cu u2 (Less (Less P p) q) (op.toNat + oq.toNat) (fun s => if s = q ∧ oq = true then some u2 else if s = p ∧ op = true then some u1 else none) none w

theorem Owes.exists (l : List Int) (P : Int → Prop) (y : Int) (u : List Int) : ∃ o, Owes o l P y u := by
  by_cases h : LazyIn l P y ∧ u ≠ []
  · exact ⟨true, fun _ => h, fun _ => rfl⟩
  · exact ⟨false, (fun e => by cases e), fun e => absurd e h⟩
theorem Owes.unique {o o' : Bool} {l : List Int} {P : Int → Prop} {y : Int} {u : List Int} (h : Owes o l P y u) (h' : Owes o' l P y u) : o = o' := by
  cases o with
  | true => exact (h'.2 (h.1 rfl)).symm
  | false =>
    cases o' with
    | false => rfl
    | true => exact h.2 (h'.1 rfl)

theorem Owes.ne {l : List Int} {P : Int → Prop} {p q : Int} {u : List Int} (h : Owes true l (Less P p) q u) : q ≠ p := by
  rintro rfl
  exact absurd (h.1 rfl).1.2 (by simp [Less])

theorem eager1 (B bn gn cn : Nat) (l : List Int) (au : Option Addr) (cu : Nat) (u : List Int) (P : Int → Prop) (p : Int) (op : Bool) (w : World) (hB : B ≤ bn) (hgn : gn ≠ bn) (ha : Asc l) (hl : l.length ≤ 1000000) (hul : u.length ≤ 1000000)
    (ho : Owes op l P p u) (h : St3 B bn gn cn l au cu u P 0 (fun _ => none) none w) (hw : Own B gn l au u w) :
    Calls Try.prog 13 #[.pointer (some ⟨bn, 0, none⟩), .int .i64 p] w fun e w' => Done e ∧ Below B w w' ∧ Af1 B bn gn cn l au cu u P p op u w' ∧ Own B gn l au u w' := by
  refine (eagerRun B bn gn cn l au cu u P (au.map (·.block)) p op 0 w hB hgn ha hl hul ho ⟨fun _ => h.keep hw, fun h => absurd rfl h⟩).mono ?_
  rintro e w' ⟨h1, h2, h3, h4⟩
  exact ⟨h1, h2, St3.drop h4, hw.of_block fun x hx => h3 _ (by rw [hx]; rfl)⟩

theorem eager2 (B bn gn cn : Nat) (l : List Int) (au : Option Addr) (cu : Nat) (u2 : List Int) (P : Int → Prop) (p : Int) (op : Bool) (u1 : List Int) (q : Int) (oq : Bool) (w : World) (hB : B ≤ bn) (hgn : gn ≠ bn) (ha : Asc l) (hl : l.length ≤ 1000000) (hul : u2.length ≤ 1000000)
    (ho : Owes oq l (Less P p) q u2) (h : Af1 B bn gn cn l au cu u2 P p op u1 w) :
    Calls Try.prog 13 #[.pointer (some ⟨bn, 0, none⟩), .int .i64 q] w fun e w' => Done e ∧ Below B w w' ∧ Af2 B bn gn cn l au cu u2 P p op u1 q oq w' := by
  have hn : LazyIn l (Less P p) q → q ≠ p := by
    rintro hz rfl
    exact absurd hz.2 (by simp [Less])
  refine (eagerSt B bn gn cn l au cu u2 (Less P p) _ _ none q w hB hgn ha hl hul h (fun hz => by simp [hn hz])).mono ?_
  rintro e w' ⟨h1, h2, h3, ⟨h4, h5⟩ | ⟨h4, h5⟩⟩
  · have hf : oq = false := by cases oq with
      | false => rfl
      | true => exact absurd (ho.1 rfl) h4
    subst hf
    exact ⟨h1, h2, h5.congr (fun _ => Iff.rfl) (fun s => by simp)⟩
  · have ht := ho.2 h4
    subst ht
    exact ⟨h1, h2, h5.congr (fun _ => Iff.rfl) (fun s => by simp)⟩

section
variable {B bn gn cn : Nat} {l : List Int} {au : Option Addr} {cu : Nat} {u1 u2 : List Int} {P : Int → Prop} {p q : Int} {op oq : Bool} {w w' : World}
theorem Af2.below (h : Af2 B bn gn cn l au cu u2 P p op u1 q oq w) (hb : Below w.heap.size w w') : Af2 B bn gn cn l au cu u2 P p op u1 q oq w' := St3.below h hb
theorem Af2.len (h : Af2 B bn gn cn l au cu u2 P p op u1 q oq w) :
    Calls Try.prog 18 #[.pointer (some ⟨bn, 0, none⟩)] w fun e w' => e = .returned (.int .i64 ((op.toNat + oq.toNat : Nat) : Int)) ∧ w' = w := owedLenSt h (by cases op <;> cases oq <;> simp)
theorem Af2.p0 (h : Af2 B bn gn cn l au cu u2 P p false u1 q oq w) (ho : Owes oq l (Less P p) q u2) :
    Calls Try.prog 16 #[.pointer (some ⟨bn, 0, none⟩), .int .i64 p] w fun e w' => e = .returned (.tuple #[.slice none 0 0, .bool false]) ∧ w' = w := by
  refine owedNone h p ?_
  cases oq with
  | false => simp
  | true =>
    have h' : ¬ p = q := fun e => ho.ne e.symm
    simp [h']
theorem Af2.p1 (h : Af2 B bn gn cn l au cu u2 P p true u1 q oq w) (ho : Owes oq l (Less P p) q u2) :
    Calls Try.prog 16 #[.pointer (some ⟨bn, 0, none⟩), .int .i64 p] w fun e w' => (∃ g c, e = .returned (.tuple #[.slice (some ⟨g, 0, none⟩) u1.length c, .bool true]) ∧ Row w (some ⟨g, 0, none⟩) u1) ∧ w' = w := by
  refine owedSome h p ?_
  cases oq with
  | false => simp
  | true =>
    have h' : ¬ p = q := fun e => ho.ne e.symm
    simp [h']
theorem Af2.q0 (h : Af2 B bn gn cn l au cu u2 P p op u1 q false w) (hne : q ≠ p) :
    Calls Try.prog 16 #[.pointer (some ⟨bn, 0, none⟩), .int .i64 q] w fun e w' => e = .returned (.tuple #[.slice none 0 0, .bool false]) ∧ w' = w := owedNone h q (by simp [hne])
theorem Af2.q1 (h : Af2 B bn gn cn l au cu u2 P p op u1 q true w) :
    Calls Try.prog 16 #[.pointer (some ⟨bn, 0, none⟩), .int .i64 q] w fun e w' => (∃ g c, e = .returned (.tuple #[.slice (some ⟨g, 0, none⟩) u2.length c, .bool true]) ∧ Row w (some ⟨g, 0, none⟩) u2) ∧ w' = w := owedSome h q (by simp)
end

end Go.Proofs.Qxb6612866a
