/- A region that draws its order and only makes values (calls that write new memory at most), guards and all. -/
import Derived.Test.Qxb6612745aOps
import Derived.Test.Qxb6612745aHeld
namespace Go.Proofs.Qxb6612745a
open Go.RowKit

/-- Each operation writes a slot of ds inside the frame, no two the same. -/
def slotsG (ops : Array Oper) (ds : List Tmp) (n : Nat) : Bool :=
  ops.all (fun o => match o.dst with | some d => ds.contains d && decide (d < n) | none => true) &&
  (List.range ops.size).all fun i => (List.range ops.size).all fun j => decide (i = j) || (match dstOf ops i, dstOf ops j with | some d, some d' => d != d' | _, _ => true)

structure SlotsG (ops : Array Oper) (ds : List Tmp) (n : Nat) : Prop where
  dst : ∀ (i : Nat) (o : Oper) (d : Tmp), ops[i]? = some o → o.dst = some d → d ∈ ds ∧ d < n
  apart : ∀ (i j : Nat) (o : Oper) (d : Tmp), ops[i]? = some o → i ≠ j → dstOf ops j = some d → o.dst ≠ some d

theorem slotsG_spec {ops : Array Oper} {ds : List Tmp} {n : Nat} (h : slotsG ops ds n = true) : SlotsG ops ds n := by
  unfold slotsG at h
  rw [Bool.and_eq_true] at h
  obtain ⟨h1, h2⟩ := h
  rw [Array.all_eq_true_iff_forall_mem] at h1
  refine ⟨fun i o d ho hd => ?_, fun i j o d ho hij hd => ?_⟩
  · have := h1 o (Array.mem_of_getElem? ho)
    rw [hd] at this
    simpa using this
  · intro hod
    have hi := lt_of_get ho
    have hj : j < ops.size := by
      unfold dstOf at hd
      cases hq : ops[j]? with
      | none => rw [hq] at hd; cases hd
      | some o' => exact lt_of_get hq
    have := List.all_eq_true.1 (List.all_eq_true.1 h2 i (List.mem_range.2 hi)) j (List.mem_range.2 hj)
    rw [hd, show dstOf ops i = some d by unfold dstOf; rw [ho]; exact hod] at this
    simp [hij] at this

theorem gotG_same {ops : Array Oper} {ds : List Tmp} {T : Array Value} (so : SlotsG ops ds T.size) {a : Act} (hk : Kept ds T a) {i : Nat} {o : Oper} (ho : ops[i]? = some o) {d : Tmp} (hd : o.dst = some d) (v : Value) : got ops (a.put o.dst v) i = v := by
  have e : dstOf ops i = some d := by unfold dstOf; rw [ho]; exact hd
  unfold got
  rw [e, hd]
  exact slot_put_same hk (so.dst i o d ho hd).2 v

theorem gotG_other {ops : Array Oper} {ds : List Tmp} {n : Nat} (so : SlotsG ops ds n) (a : Act) {i j : Nat} {o : Oper} (ho : ops[i]? = some o) (hij : i ≠ j) (v : Value) : got ops (a.put o.dst v) j = got ops a j := by
  unfold got
  cases e : dstOf ops j with
  | none => rfl
  | some d => exact slot_put_other a (so.apart i j o d ho hij e) v

section
variable {ops : Array Oper} {T : Array Value} {ds : List Tmp} {W : World} {S : Nat → Value → World → Prop}
variable {deps : Nat → List Nat} {Q : Exit → Act → World → Prop} {id : Nat}

/-- The operation j has left a bool: so much for a guard on j. -/
theorem wpOp_guard {i j : Nat} {o : Oper} {K : Act → World → Prop} {a : Act} {w : World} {b want : Bool} {d : Tmp} (ho : ops[i]? = some o) (hg : o.guard = some (j, want)) (hd : dstOf ops j = some d)
    (hv : slot a d = .bool b) (hyes : b = want → o.wp Try.prog a w K Q) (hno : b ≠ want → K (a.put o.dst undef) w) : wpOp Try.prog ops Q i K a w := by
  unfold wpOp
  rw [ho]
  have hy : yielded ops a.tmps j = some b := by
    unfold yielded
    unfold dstOf at hd
    rw [hd]
    unfold slot at hv
    simp only [Option.bind_some]
    cases hq : a.tmps[d]? with
    | none => rw [hq] at hv; cases hv
    | some v => rw [hq] at hv; simp only [Option.getD_some] at hv; rw [hv]
  simp only [Region.wanted, hg, hy]
  by_cases hb : b = want
  · subst hb
    simp only [beq_self_eq_true, if_true]
    exact Or.inl (hyes rfl)
  · have : (some b == some want) = false := by simpa using hb
    rw [this]
    exact hno hb

theorem wp_region_vals (hb : edgesBack ops = true) (so : SlotsG ops ds T.size) (dok : depsOk ops deps = true) (stays : ∀ i v w w', S i v w → Below w.heap.size w w' → S i v w')
    (hval : ∀ i o, ops[i]? = some o → (∃ d, o.dst = some d) ∧ ∀ a w, Kept ds T a → Below W.heap.size W w → (∀ j ∈ deps i, S j (got ops a j) w) →
      wpOp Try.prog ops Q i (fun a' w' => ∃ v, a' = a.put o.dst v ∧ S i v w' ∧ Below w.heap.size w w') a w)
    {w : World} (hW : W = w)
    (hK : ∀ a' w', Kept ds T a' → Below W.heap.size W w' → (∀ i, i < ops.size → S i (got ops a' i) w') → Q .normal a' w') :
    (Code.region id ops true).wp Try.prog Q ⟨T, []⟩ w := by
  subst hW
  refine wp_region_inv (fun listed a w => Kept ds T a ∧ Below W.heap.size W w ∧ ∀ i, listed[i]? = some true → S i (got ops a i) w) ?_ ?_ ?_
  · refine ⟨Kept.refl _ _, (Below.refl _ _).drew, fun i h => ?_⟩
    rw [Array.getElem?_replicate] at h
    split at h <;> simp at h
  · intro listed a w i o hs ⟨hk, hbw, hv⟩ ho hf haf
    have hi := lt_of_get ho
    have hil : i < listed.size := by omega
    obtain ⟨⟨d, hd⟩, hw⟩ := hval i o ho
    refine wpOp_mono ?_ (hw a w hk hbw fun j hj => hv j (depsOk_spec dok ho hj haf))
    rintro a' w' ⟨v, rfl, hsv, hbn⟩
    refine ⟨hk.put (fun d hd => (so.dst i o d ho hd).1) v, hbw.trans (hbn.mono hbw.size), fun j hl => ?_⟩
    by_cases hij : i = j
    · subst hij; rw [gotG_same so hk ho hd v]; exact hsv
    · rw [get_set_other hij] at hl
      rw [gotG_other so a ho hij v]
      exact stays j _ _ _ (hv j hl) hbn
  · intro listed a w hs hr ⟨hk, hbw, hv⟩
    exact hK a w hk hbw fun i hi => hv i (all_listed hs hb hr i hi)
end

section
variable {o : Oper} {a : Act} {w : World} {K : Act → World → Prop} {Q : Exit → Act → World → Prop}

theorem isAgg28 (w : World) : (isAgg 28).run Try.prog w = .ok false w := by kernel_rfl
theorem run_load28 {w : World} {b i : Nat} {v : Value} (h : w.cell? ⟨b, i, none⟩ = some v) : (Instr.loadAt 28 (.pointer (some ⟨b, i, none⟩))).run Try.prog w = .ok v w := by
  simp only [Instr.loadAt, Instr.sureAddr, loadVar, Sem.run_bind, Sem.run_pure, Result.andThen_ok, isAgg28, Bool.false_eq_true, if_false, run_load, h]
theorem run_field3 (w : World) (b : Nat) : (Instr.fieldAt 34 (.pointer (some ⟨b, 0, none⟩)) 3).run Try.prog w = .ok (.pointer (some ⟨b, 3, none⟩)) w := by kernel_rfl
end

end Go.Proofs.Qxb6612745a
