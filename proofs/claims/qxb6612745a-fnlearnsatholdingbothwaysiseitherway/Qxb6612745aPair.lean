/- learnsAt (35), where a conflict holds, and its door (15). -/
import Derived.Test.Qxb6612745aKnow
namespace Go.Proofs.Qxb6612745a
open Go.RowKit

/-- The walk's record, with both trees; a conflict holds. -/
def OW (w : World) (b ma mb : Nat) (both : Bool) : Prop :=
  w.cell? ⟨b, 0, none⟩ = some (.map (some ma)) ∧ w.cell? ⟨b, 1, none⟩ = some (.map (some mb)) ∧ w.cell? ⟨b, 3, none⟩ = some (.bool both) ∧ w.cell? ⟨b, 12, none⟩ = some (.bool true)

theorem cell_below {w w' : World} (hb : Below w.heap.size w w') {a : Addr} {v : Value} (h : w.cell? a = some v) : w'.cell? a = some v := (hb.cell (World.block_lt_of_cell? _ _ h)).trans h

theorem OW.below {w w' : World} {b ma mb : Nat} {both : Bool} (h : OW w b ma mb both) (hb : Below w.heap.size w w') : OW w' b ma mb both :=
  ⟨cell_below hb h.1, cell_below hb h.2.1, cell_below hb h.2.2.1, cell_below hb h.2.2.2⟩

/-- The read of the tree t at q is E, in every later world. -/
def AtE (w : World) (t : Nat) (q : ByteArray) (E : Array Value) : Prop :=
  ∀ w', Below w.heap.size w w' → Calls Try.prog 41 #[.map (some t), .string q] w' fun e w'' => e = .returned (.agg E) ∧ Below w'.heap.size w' w''

theorem AtE.later {w w' : World} {t : Nat} {q : ByteArray} {E : Array Value} (h : AtE w t q E) (hb : Below w.heap.size w w') : AtE w' t q E :=
  fun w'' hb' => h w'' (hb.trans (hb'.mono hb.size))
theorem AtE.hit {w : World} {t : Nat} {f : ByteArray → Option Value} {q : ByteArray} {E : Array Value} (hE : One E) (hm : Maps w t f) (hf : f q = some (.agg E)) : AtE w t q E :=
  fun w' hb => at41_hit t f q E w' hE (hm.below hb) hf
theorem AtE.empty {w : World} {t : Nat} {f : ByteArray → Option Value} {q : ByteArray} (hq : q.size ≤ 9223372036854775807) (hm : Maps w t f) (hf : ∀ s, f s = none) : AtE w t q ent0 :=
  fun w' hb => at41_empty t f q w' hq (hm.below hb) hf

theorem isAgg36 (w : World) : (isAgg 36).run Try.prog w = .ok false w := by kernel_rfl
theorem run_load36 {w : World} {b i : Nat} {v : Value} (h : w.cell? ⟨b, i, none⟩ = some v) : (Instr.loadAt 36 (.pointer (some ⟨b, i, none⟩))).run Try.prog w = .ok v w := by
  simp only [Instr.loadAt, Instr.sureAddr, loadVar, Sem.run_bind, Sem.run_pure, Result.andThen_ok, isAgg36, Bool.false_eq_true, if_false, run_load, h]
theorem run_field67a (w : World) (b : Nat) : (Instr.fieldAt 67 (.pointer (some ⟨b, 0, none⟩)) 0).run Try.prog w = .ok (.pointer (some ⟨b, 0, none⟩)) w := by kernel_rfl
theorem run_field67b (w : World) (b : Nat) : (Instr.fieldAt 67 (.pointer (some ⟨b, 0, none⟩)) 1).run Try.prog w = .ok (.pointer (some ⟨b, 1, none⟩)) w := by kernel_rfl

section
variable {o : Oper} {a : Act} {w : World} {K : Act → World → Prop} {Q : Exit → Act → World → Prop}

theorem wp_nilCheck (x : Operand) (hop : o.op = .nilCheck x) {p : Addr} (hx : a.eval x = .pointer (some p)) (h : K (a.put o.dst (.pointer (some p))) w) : o.wp Try.prog a w K Q := by
  unfold Oper.wp execOp
  simp only [hop, hx]
  exact h

theorem wp_field67a (x : Operand) (hop : o.op = .fieldAddr 67 x 0) {b : Nat} (hx : a.eval x = .pointer (some ⟨b, 0, none⟩)) (h : K (a.put o.dst (.pointer (some ⟨b, 0, none⟩))) w) : o.wp Try.prog a w K Q := by
  unfold Oper.wp execOp
  simp only [hop, hx, Sem.run_bind, run_field67a, Result.andThen_ok, Sem.run_pure]
  exact h

theorem wp_field67b (x : Operand) (hop : o.op = .fieldAddr 67 x 1) {b : Nat} (hx : a.eval x = .pointer (some ⟨b, 0, none⟩)) (h : K (a.put o.dst (.pointer (some ⟨b, 1, none⟩))) w) : o.wp Try.prog a w K Q := by
  unfold Oper.wp execOp
  simp only [hop, hx, Sem.run_bind, run_field67b, Result.andThen_ok, Sem.run_pure]
  exact h

theorem wp_load36 (x : Operand) (hop : o.op = .load 36 x) {b i : Nat} {v : Value} (hx : a.eval x = .pointer (some ⟨b, i, none⟩)) (hc : w.cell? ⟨b, i, none⟩ = some v) (h : K (a.put o.dst v) w) : o.wp Try.prog a w K Q := by
  unfold Oper.wp execOp
  simp only [hop, hx, Sem.run_bind, run_load36 hc, Result.andThen_ok, Sem.run_pure]
  exact h

theorem wp_call41 (x y : Operand) (hop : o.op = .call { callee := .value (.func 41), args := #[x, y], argTypes := #[36, 9] }) {W : World} {t : Nat} {p : ByteArray} {E : Array Value} (hx : a.eval x = .map (some t)) (hy : a.eval y = .string p)
    (hA : AtE W t p E) (hb : Below W.heap.size W w) (h : ∀ w', Below w.heap.size w w' → K (a.put o.dst (.agg E)) w') : o.wp Try.prog a w K Q := by
  unfold Oper.wp
  have he : (execOp a.eval o).run Try.prog w = .ok (.enter 41 #[.map (some t), .string p]) w := by
    rw [run_call_go hop Try.func41 (by kernel_rfl) (by kernel_rfl)]
    simp [hx, hy]
  rw [he]
  refine (hA w hb).mono ?_
  rintro e w' ⟨rfl, hb'⟩
  exact h w' hb'

theorem wp_allocEnt (hop : o.op = .alloc 34) (h : ∀ b w', w.heap.size ≤ b → Ent w' b ent0 → Below w.heap.size w w' → K (a.put o.dst (.pointer (some ⟨b, 0, none⟩))) w') : o.wp Try.prog a w K Q := by
  unfold Oper.wp execOp
  simp only [hop, Sem.run_bind]
  exact h _ _ (Nat.le_refl _) (ent_alloc w One.zero) (below_alloc w _)

theorem wp_storeEnt (x y : Operand) (hop : o.op = .store 34 x y) {b : Nat} {Z E : Array Value} (hx : a.eval x = .pointer (some ⟨b, 0, none⟩)) (hy : a.eval y = .agg E) (hZ : Ent w b Z) (hE : One E)
    (h : ∀ w', Ent w' b E → Turned w w' b → K (a.put o.dst undef) w') : o.wp Try.prog a w K Q := by
  have hs := run_storeVar_row (P := Try.prog) w b 34 34 Z E hZ.1 (by rw [size34, hE.1]) (by rw [hZ.2.1, hE.1]) hE.2
  unfold Oper.wp execOp
  simp only [hop, hx, hy, Instr.storeAt, Instr.sureAddr, Sem.run_bind, Sem.run_pure, Result.andThen_ok, hs]
  exact h _ ⟨setRow_heap w b Z E 34 (0, 0) hZ.1, hE⟩ (setRow_turned w b E)
end

/-- A variable that the region makes and fills: operation j makes it, operation k fills it with E. -/
def Made (ops : Array Oper) (W : World) (E : Array Value) (j k : Nat) (listed : Array Bool) (a : Act) (w : World) : Prop :=
  listed[j]? = some true → ∃ b, got ops a j = .pointer (some ⟨b, 0, none⟩) ∧ W.heap.size ≤ b ∧ (listed[k]? = some true → Ent w b E) ∧ ∃ Z, Ent w b Z

section
variable {ops : Array Oper} {T : Array Value} {ds : List Tmp} {W : World} {X : Nat → Value} {Ea Eb : Array Value}
variable {deps : Nat → List Nat} {Q : Exit → Act → World → Prop} {id : Nat}

theorem Made.step {listed : Array Bool} {a a' : Act} {w w' : World} {E : Array Value} {i j k : Nat} (h : Made ops W E j k listed a w) (h1 : i ≠ j) (h2 : i ≠ k) (hg : got ops a' j = got ops a j) (hb : Below w.heap.size w w') :
    Made ops W E j k (listed.setIfInBounds i true) a' w' := by
  unfold Made at h ⊢
  rw [get_set_other h1, get_set_other h2, hg]
  intro hl
  obtain ⟨b, e1, e2, e3, Z, e4⟩ := h hl
  exact ⟨b, e1, e2, fun k => (e3 k).below hb, Z, e4.below hb⟩

/-- 'x, y := f(..), g(..)' into two new variables of entries, in whatever order. The values are made by operations 0 to 11; 12 and 13 make the variables, 14 and 15 fill them with what 5 and 11 made. -/
theorem wp_region_pair (hb : edgesBack ops = true) (so : SlotsG ops ds T.size) (dok : depsOk ops deps = true) (hn : ops.size = 16) (hEa : One Ea) (hEb : One Eb) (hXa : X 5 = .agg Ea) (hXb : X 11 = .agg Eb)
    (hdp : ∀ i, i < 12 → ∀ j ∈ deps i, j < 12)
    (h12 : ∃ o d, ops[12]? = some o ∧ o.guard = none ∧ o.op = .alloc 34 ∧ o.dst = some d) (h13 : ∃ o d, ops[13]? = some o ∧ o.guard = none ∧ o.op = .alloc 34 ∧ o.dst = some d)
    (h14 : ∃ o tx ty, ops[14]? = some o ∧ o.guard = none ∧ o.op = .store 34 (.tmp tx) (.tmp ty) ∧ o.dst = none ∧ dstOf ops 12 = some tx ∧ dstOf ops 5 = some ty ∧ 12 ∈ deps 14 ∧ 5 ∈ deps 14)
    (h15 : ∃ o tx ty, ops[15]? = some o ∧ o.guard = none ∧ o.op = .store 34 (.tmp tx) (.tmp ty) ∧ o.dst = none ∧ dstOf ops 13 = some tx ∧ dstOf ops 11 = some ty ∧ 13 ∈ deps 15 ∧ 11 ∈ deps 15)
    (hval : ∀ i o, i < 12 → ops[i]? = some o → o.guard = none ∧ (∃ d, o.dst = some d) ∧ ∀ a w, Kept ds T a → Below W.heap.size W w → (∀ j ∈ deps i, got ops a j = X j) →
      o.wp Try.prog a w (fun a' w' => a' = a.put o.dst (X i) ∧ Below w.heap.size w w') Q)
    {w : World} (hW : W = w)
    (hK : ∀ a' w' b b', Kept ds T a' → Below W.heap.size W w' → got ops a' 12 = .pointer (some ⟨b, 0, none⟩) → got ops a' 13 = .pointer (some ⟨b', 0, none⟩) → Ent w' b Ea → Ent w' b' Eb → Q .normal a' w') :
    (Code.region id ops true).wp Try.prog Q ⟨T, []⟩ w := by
  subst hW
  refine wp_region_inv (fun listed a w => Kept ds T a ∧ Below W.heap.size W w ∧ (∀ i, i < 12 → listed[i]? = some true → got ops a i = X i) ∧ Made ops W Ea 12 14 listed a w ∧ Made ops W Eb 13 15 listed a w ∧
    (listed[12]? = some true → listed[13]? = some true → got ops a 12 ≠ got ops a 13) ∧ (listed[14]? = some true → listed[12]? = some true) ∧ (listed[15]? = some true → listed[13]? = some true)) ?_ ?_ ?_
  · have hno : ∀ i : Nat, (Array.replicate ops.size false)[i]? ≠ some true := by
      intro i h
      rw [Array.getElem?_replicate] at h
      split at h <;> simp at h
    exact ⟨Kept.refl _ _, (Below.refl _ _).drew, fun i _ h => absurd h (hno i), fun h => absurd h (hno _), fun h => absurd h (hno _), fun h => absurd h (hno _), fun h => absurd h (hno _), fun h => absurd h (hno _)⟩
  · intro listed a w i o hs ⟨hk, hbw, hv, hA, hB, hne, d14, d15⟩ ho hf haf
    have hi := lt_of_get ho
    have hil : i < listed.size := by omega
    have hdep : ∀ j ∈ deps i, listed[j]? = some true := fun j hj => depsOk_spec dok ho hj haf
    have hput : ∀ v, Kept ds T (a.put o.dst v) := fun v => hk.put (fun d hd => (so.dst i o d ho hd).1) v
    have gother : ∀ j v, i ≠ j → got ops (a.put o.dst v) j = got ops a j := fun j v hij => gotG_other so a ho hij v
    have hnot : listed[i]? ≠ some true := by rw [hf]; simp
    by_cases hlt : i < 12
    · obtain ⟨hg, ⟨d, hd⟩, hw⟩ := hval i o hlt ho
      refine wpOp_of ho hg (Oper.wp_mono ?_ (hw a w hk hbw fun j hj => hv j (hdp i hlt j hj) (hdep j hj)))
      rintro a' w' ⟨rfl, hbn⟩
      have g12 := gother 12 (X i) (by omega)
      have g13 := gother 13 (X i) (by omega)
      refine ⟨hput _, hbw.trans (hbn.mono hbw.size), fun j hj hl => ?_, hA.step (by omega) (by omega) g12 hbn, hB.step (by omega) (by omega) g13 hbn, fun l1 l2 => ?_, fun hl => ?_, fun hl => ?_⟩
      · by_cases hij : i = j
        · subst hij; exact gotG_same so hk ho hd _
        · rw [get_set_other hij] at hl
          rw [gother j _ hij]; exact hv j hj hl
      · rw [get_set_other (by omega)] at l1 l2
        rw [g12, g13]; exact hne l1 l2
      · rw [get_set_other (by omega)] at hl ⊢; exact d14 hl
      · rw [get_set_other (by omega)] at hl ⊢; exact d15 hl
    obtain rfl | rfl | rfl | rfl : i = 12 ∨ i = 13 ∨ i = 14 ∨ i = 15 := by omega
    · obtain ⟨o', d, ho', hg, hop, hd⟩ := h12
      obtain rfl : o = o' := by rw [ho] at ho'; exact Option.some.inj ho'
      refine wpOp_of ho hg (wp_allocEnt hop fun b w' lo he hbn => ?_)
      have g13 := gother 13 (.pointer (some ⟨b, 0, none⟩)) (by omega)
      have gs : got ops (a.put o.dst (.pointer (some ⟨b, 0, none⟩))) 12 = .pointer (some ⟨b, 0, none⟩) := gotG_same so hk ho hd _
      refine ⟨hput _, hbw.trans (hbn.mono hbw.size), fun j hj hl => ?_, fun _ => ⟨b, gs, Nat.le_trans hbw.size lo, fun h => ?_, _, he⟩, hB.step (by omega) (by omega) g13 hbn, fun _ l2 => ?_, fun _ => get_set_same hil, fun hl => ?_⟩
      · rw [get_set_other (by omega)] at hl
        rw [gother j _ (by omega)]; exact hv j hj hl
      · rw [get_set_other (by omega)] at h; exact absurd (d14 h) hnot
      · rw [get_set_other (by omega)] at l2
        obtain ⟨b2, e1, e2, e3, Z, e4⟩ := hB l2
        rw [gs, g13, e1]
        intro h
        have : b = b2 := by injection h with h; injection h with h; injection h
        have := e4.lt
        omega
      · rw [get_set_other (by omega)] at hl ⊢; exact d15 hl
    · obtain ⟨o', d, ho', hg, hop, hd⟩ := h13
      obtain rfl : o = o' := by rw [ho] at ho'; exact Option.some.inj ho'
      refine wpOp_of ho hg (wp_allocEnt hop fun b w' lo he hbn => ?_)
      have g12 := gother 12 (.pointer (some ⟨b, 0, none⟩)) (by omega)
      have gs : got ops (a.put o.dst (.pointer (some ⟨b, 0, none⟩))) 13 = .pointer (some ⟨b, 0, none⟩) := gotG_same so hk ho hd _
      refine ⟨hput _, hbw.trans (hbn.mono hbw.size), fun j hj hl => ?_, hA.step (by omega) (by omega) g12 hbn, fun _ => ⟨b, gs, Nat.le_trans hbw.size lo, fun h => ?_, _, he⟩, fun l1 _ => ?_, fun hl => ?_, fun _ => get_set_same hil⟩
      · rw [get_set_other (by omega)] at hl
        rw [gother j _ (by omega)]; exact hv j hj hl
      · rw [get_set_other (by omega)] at h; exact absurd (d15 h) hnot
      · rw [get_set_other (by omega)] at l1
        obtain ⟨b2, e1, e2, e3, Z, e4⟩ := hA l1
        rw [gs, g12, e1]
        intro h
        have : b2 = b := by injection h with h; injection h with h; injection h
        have := e4.lt
        omega
      · rw [get_set_other (by omega)] at hl ⊢; exact d14 hl
    · obtain ⟨o', tx, ty, ho', hg, hop, hd, hdx, hdy, m1, m2⟩ := h14
      obtain rfl : o = o' := by rw [ho] at ho'; exact Option.some.inj ho'
      obtain ⟨b, e1, e2, e3, Z, e4⟩ := hA (hdep 12 m1)
      have hx : a.eval (.tmp tx) = .pointer (some ⟨b, 0, none⟩) := by rw [slot_eval, ← e1]; unfold got; rw [hdx]
      have hy : a.eval (.tmp ty) = .agg Ea := by rw [slot_eval, ← hXa, ← hv 5 (by omega) (hdep 5 m2)]; unfold got; rw [hdy]
      have hput0 : a.put o.dst undef = a := by rw [hd]; rfl
      refine wpOp_of ho hg (wp_storeEnt _ _ hop hx hy e4 hEa fun w' he ht => ?_)
      rw [hput0]
      refine ⟨hk, hbw.trans (ht.below e2), fun j hj hl => ?_, fun _ => ⟨b, e1, e2, fun _ => he, _, he⟩, fun hl => ?_, fun l1 l2 => ?_, fun _ => ?_, fun hl => ?_⟩
      · rw [get_set_other (by omega)] at hl; exact hv j hj hl
      · rw [get_set_other (by omega)] at hl
        obtain ⟨b2, f1, f2, f3, Z2, f4⟩ := hB hl
        have hbb : b2 ≠ b := fun h => hne (hdep 12 m1) hl (by rw [e1, f1, h])
        exact ⟨b2, f1, f2, fun h => ht.ent (f3 (by rw [get_set_other (by omega)] at h; exact h)) hbb, Z2, ht.ent f4 hbb⟩
      · rw [get_set_other (by omega)] at l1 l2; exact hne l1 l2
      · rw [get_set_other (by omega)]; exact hdep 12 m1
      · rw [get_set_other (by omega)] at hl ⊢; exact d15 hl
    · obtain ⟨o', tx, ty, ho', hg, hop, hd, hdx, hdy, m1, m2⟩ := h15
      obtain rfl : o = o' := by rw [ho] at ho'; exact Option.some.inj ho'
      obtain ⟨b, e1, e2, e3, Z, e4⟩ := hB (hdep 13 m1)
      have hx : a.eval (.tmp tx) = .pointer (some ⟨b, 0, none⟩) := by rw [slot_eval, ← e1]; unfold got; rw [hdx]
      have hy : a.eval (.tmp ty) = .agg Eb := by rw [slot_eval, ← hXb, ← hv 11 (by omega) (hdep 11 m2)]; unfold got; rw [hdy]
      have hput0 : a.put o.dst undef = a := by rw [hd]; rfl
      refine wpOp_of ho hg (wp_storeEnt _ _ hop hx hy e4 hEb fun w' he ht => ?_)
      rw [hput0]
      refine ⟨hk, hbw.trans (ht.below e2), fun j hj hl => ?_, fun hl => ?_, fun _ => ⟨b, e1, e2, fun _ => he, _, he⟩, fun l1 l2 => ?_, fun hl => ?_, fun _ => ?_⟩
      · rw [get_set_other (by omega)] at hl; exact hv j hj hl
      · rw [get_set_other (by omega)] at hl
        obtain ⟨b2, f1, f2, f3, Z2, f4⟩ := hA hl
        have hbb : b2 ≠ b := fun h => hne hl (hdep 13 m1) (by rw [e1, f1, h])
        exact ⟨b2, f1, f2, fun h => ht.ent (f3 (by rw [get_set_other (by omega)] at h; exact h)) hbb, Z2, ht.ent f4 hbb⟩
      · rw [get_set_other (by omega)] at l1 l2; exact hne l1 l2
      · rw [get_set_other (by omega)] at hl ⊢; exact d14 hl
      · rw [get_set_other (by omega)]; exact hdep 13 m1
  · intro listed a w hs hr ⟨hk, hbw, hv, hA, hB, hne, d14, d15⟩
    have all := all_listed hs hb hr
    obtain ⟨b, e1, _, e3, _⟩ := hA (all 12 (by omega))
    obtain ⟨b', f1, _, f3, _⟩ := hB (all 13 (by omega))
    exact hK a w b b' hk hbw e1 f1 (e3 (all 14 (by omega))) (f3 (all 15 (by omega)))
end

end Go.Proofs.Qxb6612745a
