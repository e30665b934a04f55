/- Plain laws on what is known: no Go in sight. -/
import Derived.Test.Qxb6612745aLearn
import Derived.Test.Qxb6612745aKnows
namespace Go.Proofs.Qxb6612745a
open Go.RowKit

theorem valF_pos_mem {l : List (ByteArray × Int)} (sl : Srt l) {s : ByteArray} (h : 0 < valF l s) : ∃ e ∈ l, e.1 = s ∧ e.2 = valF l s := by
  by_cases hex : ∃ e ∈ l, e.1 = s
  · obtain ⟨e, he, hs⟩ := hex
    exact ⟨e, he, hs, by rw [← hs, valF_mem sl he]⟩
  · have := valF_notin (l := l) (s := s) fun e he hs => hex ⟨e, he, hs⟩
    omega

theorem knows_zknows {eS eD fS fD : List (ByteArray × Int)} (s3 : Srt fS) (s4 : Srt fD) (p1 : Pos eS) (_p2 : Pos eD) (p4 : Pos fD) : KnowsAll eS eD fS fD ↔ zKnows eS eD fS fD := by
  constructor
  · rintro ⟨h1, h2⟩
    refine ⟨(LE_iff s3 p1).1 h1, fun x hx => ?_⟩
    have := h2 x.1
    rw [valF_mem s4 hx] at this
    omega
  · rintro ⟨h1, h2⟩
    have hL : LE fS eS := (LE_iff s3 p1).2 h1
    refine ⟨hL, fun s => ?_⟩
    have a1 := hL s
    have a2 := valF_nonneg p1 s
    have a3 := valF_nonneg p4 s
    by_cases hz : 0 < valF fD s
    · obtain ⟨e, he, hs, hv⟩ := valF_pos_mem s4 hz
      have := h2 e he
      rw [hs, hv] at this
      omega
    · omega

theorem knows_nothing {fS fD : List (ByteArray × Int)} (s3 : Srt fS) (s4 : Srt fD) : KnowsAll [] [] fS fD ↔ ¬ ((∃ x ∈ fS, 0 < x.2) ∨ ∃ x ∈ fD, 0 < x.2) := by
  constructor
  · rintro ⟨h1, h2⟩ (⟨x, hx, h⟩ | ⟨x, hx, h⟩)
    · have := h1 x.1
      rw [valF_mem s3 hx] at this
      simp only [valF] at this
      omega
    · have := h2 x.1
      rw [valF_mem s4 hx] at this
      simp only [valF] at this
      omega
  · intro h
    have a1 : ∀ s, valF fS s ≤ 0 := fun s => by
      by_cases hz : 0 < valF fS s
      · obtain ⟨e, he, hs, hv⟩ := valF_pos_mem s3 hz
        exact absurd (Or.inl ⟨e, he, by omega⟩) h
      · omega
    have a2 : ∀ s, valF fD s ≤ 0 := fun s => by
      by_cases hz : 0 < valF fD s
      · obtain ⟨e, he, hs, hv⟩ := valF_pos_mem s4 hz
        exact absurd (Or.inr ⟨e, he, by omega⟩) h
      · omega
    refine ⟨fun s => ?_, fun s => ?_⟩
    · simp only [valF]; exact a1 s
    · simp only [valF]
      have := a1 s
      have := a2 s
      omega

theorem knows_join {aS aD bS bD mS mD : List (ByteArray × Int)} (h : IsMax bS aS mS) (h' : IsMax bD aD mD) : KnowsAll mS mD aS aD := by
  refine ⟨fun s => ?_, fun s => ?_⟩
  · rw [h.2.2 s]; omega
  · rw [h.2.2 s, h'.2.2 s]; omega

theorem knows_self (aS aD : List (ByteArray × Int)) : KnowsAll aS aD aS aD := ⟨fun _ => Int.le_refl _, fun _ => Int.le_refl _⟩

theorem says_true {b : Bool} {p : Prop} (hq : b = true ↔ p) (h : p) : b = true := hq.2 h
theorem says_false {b : Bool} {p : Prop} (hq : b = true ↔ p) (h : ¬ p) : b = false := by
  cases b with
  | false => rfl
  | true => exact absurd (hq.1 rfl) h

/-- An entry of a file with S and DS. -/
theorem KE.file {w : World} {s ds : Sl} {S D : List (ByteArray × Int)} (h1 : s.has w S) (h2 : ds.has w D) (n1 : S.length ≤ 500000) (n2 : D.length ≤ 500000) (t1 : Srt S) (t2 : Srt D) (p1 : Pos S) (p2 : Pos D) : KE w (ent 1 Sl.nil Sl.nil s Sl.nil ds Sl.nil) S D :=
  ⟨1, Sl.nil, Sl.nil, s, Sl.nil, ds, Sl.nil, Or.inr (Or.inl rfl), rfl, h1, h2, ⟨n1, n2⟩, ⟨t1, t2⟩, p1, p2⟩

end Go.Proofs.Qxb6612745a
