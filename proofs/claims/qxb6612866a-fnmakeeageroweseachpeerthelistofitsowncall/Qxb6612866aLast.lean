/- A region that draws its order: values, and one operation that comes behind all others. -/
import Derived.Test.Qxb6612866aPut
namespace Go.Proofs.Qxb6612866a
open Go.RowKit

section
variable {ops : Array Oper} {T : Array Value} {ds : List Tmp} {W : World} {S : Nat → Value → World → Prop} {Post : World → Prop} {z : Nat}
variable {deps : Nat → List Nat} {Q : Exit → Act → World → Prop} {id : Nat}

theorem all_ahead {listed : Array Bool} (hreach : ∀ i, i < ops.size → i ≠ z → ∃ k, k < ops.size ∧ i < k ∧ i ∈ deps k) (hz : ∀ j ∈ deps z, listed[j]? = some true)
    (hcl : ∀ i j, listed[i]? = some true → j ∈ deps i → listed[j]? = some true) : ∀ n i, ops.size - i ≤ n → i < ops.size → i ≠ z → listed[i]? = some true := by
  intro n
  induction n with
  | zero => intro i h1 h2; omega
  | succ n ih =>
    intro i h1 h2 h3
    obtain ⟨k, k1, k2, k3⟩ := hreach i h2 h3
    by_cases hk : k = z
    · subst hk; exact hz i k3
    · exact hcl k i (ih k (by omega) k1 hk) k3

theorem wp_region_last (hb : edgesBack ops = true) (so : SlotsG ops ds T.size) (dok : depsOk ops deps = true) (stays : ∀ i v w w', S i v w → Below w.heap.size w w' → S i v w') (hzs : z < ops.size)
    (hreach : ∀ i, i < ops.size → i ≠ z → ∃ k, k < ops.size ∧ i < k ∧ i ∈ deps k) (hdz : ∀ i, i < ops.size → z ∉ deps i)
    (hval : ∀ i o, i ≠ z → ops[i]? = some o → (∃ d, o.dst = some d) ∧ ∀ a w, Kept ds T a → Below W.heap.size W w → (∀ j ∈ deps i, S j (got ops a j) w) →
      wpOp Try.prog ops Q i (fun a' w' => ∃ v, a' = a.put o.dst v ∧ S i v w' ∧ Below w.heap.size w w') a w)
    (hlast : ∀ o, ops[z]? = some o → ∀ a w, Kept ds T a → Below W.heap.size W w → (∀ i, i < ops.size → i ≠ z → S i (got ops a i) w) →
      wpOp Try.prog ops Q z (fun a' w' => (∃ v, a' = a.put o.dst v) ∧ Post w') a w)
    {w : World} (hW : W = w)
    (hK : ∀ a' w', Kept ds T a' → Post w' → Q .normal a' w') :
    (Code.region id ops true).wp Try.prog Q ⟨T, []⟩ w := by
  subst hW
  refine wp_region_inv (fun listed a w => Kept ds T a ∧ (∀ i j, listed[i]? = some true → j ∈ deps i → listed[j]? = some true) ∧
    (listed[z]? ≠ some true → Below W.heap.size W w ∧ ∀ i, i ≠ z → listed[i]? = some true → S i (got ops a i) w) ∧ (listed[z]? = some true → Post w)) ?_ ?_ ?_
  · have hno : ∀ i : Nat, (Array.replicate ops.size false)[i]? ≠ some true := by
      intro i h
      rw [Array.getElem?_replicate] at h
      split at h <;> simp at h
    exact ⟨Kept.refl _ _, fun i j h _ => absurd h (hno i), fun _ => ⟨(Below.refl _ _).drew, fun i _ h => absurd h (hno i)⟩, fun h => absurd h (hno z)⟩
  · intro listed a w i o hs ⟨hk, hcl, h1, h2⟩ ho hf haf
    have hi := lt_of_get ho
    have hil : i < listed.size := by omega
    have hdep : ∀ j ∈ deps i, listed[j]? = some true := fun j hj => depsOk_spec dok ho hj haf
    have hput : ∀ v, Kept ds T (a.put o.dst v) := fun v => hk.put (fun d hd => (so.dst i o d ho hd).1) v
    have hnot : listed[i]? ≠ some true := by rw [hf]; simp
    have hcl' : ∀ k j, (listed.setIfInBounds i true)[k]? = some true → j ∈ deps k → (listed.setIfInBounds i true)[j]? = some true := by
      intro k j hk' hj
      by_cases hji : i = j
      · subst hji; exact get_set_same hil
      · rw [get_set_other hji]
        by_cases hki : i = k
        · subst hki; exact hdep j hj
        · rw [get_set_other hki] at hk'; exact hcl k j hk' hj
    by_cases hiz : i = z
    · subst hiz
      obtain ⟨hbw, hv⟩ := h1 hnot
      refine wpOp_mono ?_ (hlast o ho a w hk hbw fun j hj hjz => hv j hjz (all_ahead hreach hdep hcl _ j (Nat.le_refl _) hj hjz))
      rintro a' w' ⟨⟨v, rfl⟩, hp⟩
      exact ⟨hput v, hcl', fun h => absurd (get_set_same hil) h, fun _ => hp⟩
    · have hz : listed[z]? ≠ some true := fun h => hnot (all_ahead hreach (fun j hj => hcl z j h hj) hcl _ i (Nat.le_refl _) hi hiz)
      obtain ⟨hbw, hv⟩ := h1 hz
      obtain ⟨⟨d, hd⟩, hw⟩ := hval i o hiz ho
      refine wpOp_mono ?_ (hw a w hk hbw fun j hj => hv j (fun e => hdz i hi (e ▸ hj)) (hdep j hj))
      rintro a' w' ⟨v, rfl, hsv, hbn⟩
      refine ⟨hput v, hcl', fun _ => ⟨hbw.trans (hbn.mono hbw.size), fun j hjz hl => ?_⟩, fun h => ?_⟩
      · by_cases hij : i = j
        · subst hij; rw [gotG_same so hk ho hd v]; exact hsv
        · rw [get_set_other hij] at hl
          rw [gotG_other so a ho hij v]
          exact stays j _ _ _ (hv j hjz hl) hbn
      · rw [get_set_other hiz] at h; exact absurd h hz
  · intro listed a w hs hr ⟨hk, _, _, h2⟩
    exact hK a w hk (h2 (all_listed hs hb hr z hzs))
end

end Go.Proofs.Qxb6612866a
