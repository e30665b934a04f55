/- Plain laws on the flags: which neighbours are marked. -/
import Derived.Test.Qxb6612866aDoor
namespace Go.Proofs.Qxb6612866a
open Go.RowKit

/-- Just the places whose number is as P says are marked. -/
def Marks (l : List Int) (P : Int → Prop) (F : List Bool) : Prop := F.length = l.length ∧ ∀ i, i < l.length → (bt_ F i = true ↔ P (at_ l i))

theorem Marks.start (l : List Int) : Marks l (fun _ => False) (List.replicate l.length false) :=
  ⟨by simp, fun i hi => by simp [bt_, hi]⟩

theorem Marks.congr {l : List Int} {P P' : Int → Prop} {F : List Bool} (h : Marks l P F) (he : ∀ x, P x ↔ P' x) : Marks l P' F := ⟨h.1, fun i hi => (h.2 i hi).trans (he _)⟩

theorem Marks.eq {l : List Int} {P : Int → Prop} {F G : List Bool} (h : Marks l P F) (h' : Marks l P G) : F = G := by
  refine list_extB (h.1.trans h'.1.symm) fun i hi => ?_
  have hi' : i < l.length := by rw [← h.1]; exact hi
  have := (h.2 i hi').trans (h'.2 i hi').symm
  cases hx : bt_ F i <;> cases hy : bt_ G i <;> simp_all

/-- In a rising row a number stands once. -/
theorem Asc.inj {l : List Int} (h : Asc l) {i j : Nat} (hi : i < l.length) (hj : j < l.length) (he : at_ l i = at_ l j) : i = j := by
  rcases Nat.lt_trichotomy i j with hlt | e | hlt
  · have := h.lt hlt hj; omega
  · exact e
  · have := h.lt hlt hi; omega

theorem Marks.set {l : List Int} {P : Int → Prop} {F F' : List Bool} {v : Int} {k : Nat} {b : Bool} (ha : Asc l) (h : Marks l P F) (hk : k < l.length) (he : at_ l k = v) (hF : F' = F.set k b) : Marks l (fun x => if x = v then b = true else P x) F' := by
  subst hF
  refine ⟨by rw [List.length_set]; exact h.1, fun i hi => ?_⟩
  rw [bt_set (by rw [h.1]; exact hk)]
  by_cases hik : i = k
  · subst hik; simp [he]
  · have : at_ l i ≠ v := fun e => hik (ha.inj hi hk (e.trans he.symm))
    simp only [hik, if_false, this]
    exact h.2 i hi

theorem Marks.keep {l : List Int} {P : Int → Prop} {F : List Bool} {v : Int} {k : Nat} {b : Bool} (h : Marks l P F) (hf : Found l v k) (hn : ¬ (k < l.length ∧ at_ l k = v)) (ha : Asc l) : Marks l (fun x => if x = v then b = true else P x) F := by
  refine ⟨h.1, fun i hi => ?_⟩
  have : at_ l i ≠ v := by
    intro he
    rcases Nat.lt_or_ge i k with h' | h'
    · have := hf.2.1 i h'; omega
    · by_cases hik : i = k
      · subst hik; exact hn ⟨hi, he⟩
      · have hki : k < i := by omega
        have h1 := hf.2.2 k (Nat.le_refl _) (by omega)
        have h2 := ha.lt hki hi
        omega
  simp only [this, if_false]
  exact h.2 i hi

/-- The flags after a call of setLazy. -/
theorem Marks.setF {l : List Int} {P : Int → Prop} {F F' : List Bool} {v : Int} {b : Bool} (ha : Asc l) (h : Marks l P F) (hs : Qxb6612866a.setF l F v b F') : Marks l (fun x => if x = v then b = true else P x) F' := by
  obtain ⟨k, hf, ⟨hk, he, hF⟩ | ⟨hn, rfl⟩⟩ := hs
  · exact h.set ha hk he hF
  · exact h.keep hf hn ha

end Go.Proofs.Qxb6612866a
