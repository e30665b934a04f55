/- Regions that draw their order, by an invariant. -/
import Derived.Test.Qxb6612866aBase
import Derived.Orders
namespace Go.Proofs.Qxb6612866a
open Go.RowKit


/-- How many operations are still to come. -/
def left (listed : Array Bool) : Nat := listed.toList.count false

theorem left_set {listed : Array Bool} {i : Nat} (h : listed[i]? = some false) : left (listed.setIfInBounds i true) + 1 = left listed := by
  unfold left
  have hi : i < listed.size := by
    rcases Nat.lt_or_ge i listed.size with hlt | hge
    · exact hlt
    · rw [Array.getElem?_eq_none hge] at h; cases h
  have hv : listed.toList[i]? = some false := by simpa using h
  rw [Array.toList_setIfInBounds]
  generalize listed.toList = l at hv
  clear h hi
  induction l generalizing i with
  | nil => simp at hv
  | cons b l ih =>
    cases i with
    | zero => simp at hv; subst hv; simp
    | succ i =>
      simp at hv
      have := ih hv
      simp only [List.set_cons_succ, List.count_cons]
      omega

theorem left_zero {listed : Array Bool} (h : left listed = 0) (i : Nat) : listed[i]? ≠ some false := by
  intro hi
  unfold left at h
  rw [List.count_eq_zero] at h
  exact h (by have : listed.toList[i]? = some false := by simpa using hi
              exact List.mem_of_getElem? this)

/-- What it means that an operation may come up. -/
theorem ready_iff {md : Region.Mode} {ops : Array Oper} {listed : Array Bool} {i : Nat} (h : i ∈ Region.ready md ops listed) (hs : listed.size = ops.size) :
    ∃ o, ops[i]? = some o ∧ listed[i]? = some false ∧ ∀ e ∈ o.after, Region.binds md e = true → listed[e.on]? = some true := by
  unfold Region.ready at h
  rw [List.mem_filter, List.mem_range] at h
  obtain ⟨hi, h⟩ := h
  rw [Bool.and_eq_true] at h
  obtain ⟨h1, h2⟩ := h
  rw [Array.getElem?_eq_getElem hi] at h2
  refine ⟨ops[i], Array.getElem?_eq_getElem hi, ?_, fun e he hb => ?_⟩
  · have hi' : i < listed.size := by omega
    rw [Array.getElem?_eq_getElem hi']
    rw [Array.getD_eq_getD_getElem?, Array.getElem?_eq_getElem hi'] at h1
    simp at h1
    rw [h1]
  · simp only [Option.map_some, Option.getD_some, Array.all_eq_true_iff_forall_mem] at h2
    have := h2 e he
    rw [hb] at this
    simp only [Bool.not_true, Bool.false_or] at this
    rw [Array.getD_eq_getD_getElem?] at this
    cases hq : listed[e.on]? with
    | none => rw [hq] at this; cases this
    | some b => rw [hq] at this; simp at this; rw [this]

theorem wpAny_inv {P : Program} {ops : Array Oper} {Q : Exit → Act → World → Prop} (Inv : Array Bool → Act → World → Prop)
    (hstep : ∀ listed a w i o, listed.size = ops.size → Inv listed a w → ops[i]? = some o → listed[i]? = some false → (∀ e ∈ o.after, Region.binds .any e = true → listed[e.on]? = some true) →
      wpOp P ops Q i (Inv (listed.setIfInBounds i true)) a w)
    (hend : ∀ listed a w, listed.size = ops.size → Region.ready .any ops listed = [] → Inv listed a w → Q .normal a w) :
    ∀ (fuel : Nat) (listed : Array Bool) (a : Act) (w : World), listed.size = ops.size → left listed ≤ fuel → Inv listed a w → wpAny P .any ops Q fuel listed a w := by
  intro fuel
  induction fuel with
  | zero =>
    intro listed a w hs hl hI
    have hr : Region.ready .any ops listed = [] := by
      rw [List.eq_nil_iff_forall_not_mem]
      intro i hi
      obtain ⟨o, _, hf, _⟩ := ready_iff hi hs
      exact left_zero (by omega) i hf
    exact ⟨hr, hend listed a w hs hr hI⟩
  | succ fuel ih =>
    intro listed a w hs hl hI
    refine ⟨fun hr => hend listed a w hs hr hI, fun i hi => ?_⟩
    obtain ⟨o, ho, hf, haf⟩ := ready_iff hi hs
    refine wpOp_mono (fun a' w' h => ih _ a' w' (by simpa using hs) ?_ h) (hstep listed a w i o hs hI ho hf haf)
    have := left_set hf
    omega

theorem follows_mixed : Try.prog.follows .mixedOrders = true := by kernel_rfl

/-- THE RULE. -/
theorem wp_region_inv {ops : Array Oper} {Q : Exit → Act → World → Prop} {id : Nat} {a : Act} {w : World} (Inv : Array Bool → Act → World → Prop)
    (h0 : Inv (Array.replicate ops.size false) a w.drew)
    (hstep : ∀ listed a w i o, listed.size = ops.size → Inv listed a w → ops[i]? = some o → listed[i]? = some false → (∀ e ∈ o.after, Region.binds .any e = true → listed[e.on]? = some true) →
      wpOp Try.prog ops Q i (Inv (listed.setIfInBounds i true)) a w)
    (hend : ∀ listed a w, listed.size = ops.size → Region.ready .any ops listed = [] → Inv listed a w → Q .normal a w) :
    (Code.region id ops true).wp Try.prog Q a w :=
  wp_region_any follows_mixed (wpAny_inv Inv hstep hend ops.size _ a _ (by simp) (by unfold left; simp) h0)

/-- Edges lead back: then, where nothing may come up any more, all has been carried out. -/
def edgesBack (ops : Array Oper) : Bool := (List.range ops.size).all fun i => ((ops[i]?).map fun o => o.after.all fun e => !Region.binds .any e || decide (e.on < i)).getD true

theorem all_listed {ops : Array Oper} {listed : Array Bool} (hs : listed.size = ops.size) (hb : edgesBack ops = true) (hr : Region.ready .any ops listed = []) : ∀ i, i < ops.size → listed[i]? = some true := by
  intro i
  induction i using Nat.strongRecOn with
  | _ i ih =>
    intro hi
    have hi' : i < listed.size := by omega
    rw [Array.getElem?_eq_getElem hi']
    cases hv : listed[i] with
    | true => rfl
    | false =>
      exfalso
      have hmem : i ∈ Region.ready .any ops listed := by
        unfold Region.ready
        rw [List.mem_filter, List.mem_range]
        refine ⟨hi, ?_⟩
        rw [Bool.and_eq_true, Array.getElem?_eq_getElem hi]
        refine ⟨by rw [Array.getD_eq_getD_getElem?, Array.getElem?_eq_getElem hi']; simp [hv], ?_⟩
        simp only [Option.map_some, Option.getD_some, Array.all_eq_true_iff_forall_mem]
        intro e he
        cases hbe : Region.binds .any e with
        | false => rfl
        | true =>
          have hlt : e.on < i := by
            have := List.all_eq_true.1 hb i (List.mem_range.2 hi)
            rw [Array.getElem?_eq_getElem hi] at this
            simp only [Option.map_some, Option.getD_some, Array.all_eq_true_iff_forall_mem] at this
            have := this e he
            rw [hbe] at this
            simpa using this
          have := ih e.on hlt (by omega)
          rw [Array.getD_eq_getD_getElem?, this]
          rfl
      rw [hr] at hmem
      cases hmem

/-- The frame: as T, but for the slots ds. -/
def Kept (ds : List Tmp) (T : Array Value) (a : Act) : Prop := a.defers = [] ∧ a.tmps.size = T.size ∧ ∀ t, t ∉ ds → a.tmps[t]? = T[t]?

theorem Kept.refl (ds : List Tmp) (T : Array Value) : Kept ds T ⟨T, []⟩ := ⟨rfl, rfl, fun _ _ => rfl⟩

theorem Kept.put {ds : List Tmp} {T : Array Value} {a : Act} (h : Kept ds T a) {dst : Option Tmp} (hd : ∀ d, dst = some d → d ∈ ds) (v : Value) : Kept ds T (a.put dst v) := by
  cases dst with
  | none => exact h
  | some d =>
    refine ⟨h.1, by simp [Act.put, h.2.1], fun t ht => ?_⟩
    have hne : d ≠ t := fun e => ht (e ▸ hd d rfl)
    simp only [Act.put]
    rw [Array.getElem?_setIfInBounds_ne hne]
    exact h.2.2 t ht

/-- A slot's value. -/
def slot (a : Act) (t : Tmp) : Value := (a.tmps[t]?).getD undef

theorem slot_eval (a : Act) (t : Tmp) : a.eval (.tmp t) = slot a t := by
  unfold slot
  simp only [Act.eval, Array.getD_eq_getD_getElem?]

theorem slot_put_same {ds : List Tmp} {T : Array Value} {a : Act} (h : Kept ds T a) {d : Tmp} (hd : d < T.size) (v : Value) : slot (a.put (some d) v) d = v := by
  unfold slot
  simp only [Act.put]
  rw [Array.getElem?_setIfInBounds]
  simp [h.2.1, hd]

theorem slot_put_other (a : Act) {dst : Option Tmp} {t : Tmp} (h : dst ≠ some t) (v : Value) : slot (a.put dst v) t = slot a t := by
  cases dst with
  | none => rfl
  | some d =>
    unfold slot
    simp only [Act.put]
    rw [Array.getElem?_setIfInBounds_ne (fun e => h (by rw [e]))]

theorem Kept.slot {ds : List Tmp} {T : Array Value} {a : Act} (h : Kept ds T a) {t : Tmp} (ht : t ∉ ds) : slot a t = (T[t]?).getD undef := by
  unfold Qxb6612866a.slot
  rw [h.2.2 t ht]

/-- The frame written out again. -/
theorem Kept.eq {ds : List Tmp} {T : Array Value} {a : Act} (h : Kept ds T a) : a = ⟨ds.foldl (fun X d => X.setIfInBounds d (Qxb6612866a.slot a d)) T, []⟩ := by
  obtain ⟨tm, df⟩ := a
  obtain ⟨h1, h2, h3⟩ := h
  simp only at h1 h2 h3
  subst h1
  congr 1
  have key : ∀ (l : List Tmp) (X : Array Value), X.size = tm.size → (∀ t, t ∉ l → tm[t]? = X[t]?) → tm = l.foldl (fun X d => X.setIfInBounds d (Qxb6612866a.slot ⟨tm, []⟩ d)) X := by
    intro l
    induction l with
    | nil =>
      intro X _ hX
      exact Array.ext_getElem? fun t => hX t (by simp)
    | cons d l ih =>
      intro X hs hX
      rw [List.foldl_cons]
      refine ih _ (by simpa using hs) fun t ht => ?_
      by_cases htd : d = t
      · subst htd
        rw [Array.getElem?_setIfInBounds]
        simp only [if_true]
        unfold Qxb6612866a.slot
        split
        · rename_i hlt
          rw [Array.getElem?_eq_getElem (by omega)]
          rfl
        · rename_i hge
          rw [Array.getElem?_eq_none (by omega)]
      · rw [Array.getElem?_setIfInBounds_ne htd]
        exact hX t (by simp; exact ⟨fun e => htd e.symm, ht⟩)
  exact key ds T h2.symm h3



/-- The operation i writes slot t (or none). -/
def dstOf (ops : Array Oper) (i : Nat) : Option Tmp := (ops[i]?).bind (·.dst)

/-- The j's of deps i are all ahead of i by the region's own edges. -/
def depsOk (ops : Array Oper) (deps : Nat → List Nat) : Bool :=
  (List.range ops.size).all fun i => (deps i).all fun j => ((ops[i]?).map fun o => o.after.any fun e => Region.binds .any e && e.on == j).getD false

theorem depsOk_spec {ops : Array Oper} {deps : Nat → List Nat} (h : depsOk ops deps = true) {i j : Nat} {o : Oper} (ho : ops[i]? = some o) (hj : j ∈ deps i) {listed : Array Bool}
    (haf : ∀ e ∈ o.after, Region.binds .any e = true → listed[e.on]? = some true) : listed[j]? = some true := by
  have hi : i < ops.size := by
    rcases Nat.lt_or_ge i ops.size with h | h
    · exact h
    · rw [Array.getElem?_eq_none h] at ho; cases ho
  have := List.all_eq_true.1 (List.all_eq_true.1 h i (List.mem_range.2 hi)) j hj
  rw [ho] at this
  simp only [Option.map_some, Option.getD_some, Array.any_eq_true] at this
  obtain ⟨ix, hix, hb⟩ := this
  have he : o.after[ix] ∈ o.after := Array.getElem_mem hix
  generalize o.after[ix] = e at he hb
  simp only [Bool.and_eq_true, beq_iff_eq] at hb
  have := haf e he hb.1
  rwa [hb.2] at this

theorem lt_of_get {α : Type} {a : Array α} {i : Nat} {x : α} (h : a[i]? = some x) : i < a.size := by
  rcases Nat.lt_or_ge i a.size with h' | h'
  · exact h'
  · rw [Array.getElem?_eq_none h'] at h; cases h

/-- The value that operation i has left. -/
def got (ops : Array Oper) (a : Act) (i : Nat) : Value := match dstOf ops i with | some d => slot a d | none => undef

theorem get_set_same {listed : Array Bool} {i : Nat} (h : i < listed.size) : (listed.setIfInBounds i true)[i]? = some true := by
  rw [Array.getElem?_setIfInBounds]; simp [h]
theorem get_set_other {listed : Array Bool} {i j : Nat} (h : i ≠ j) : (listed.setIfInBounds i true)[j]? = listed[j]? := Array.getElem?_setIfInBounds_ne h

theorem wpOp_of {ops : Array Oper} {Q : Exit → Act → World → Prop} {i : Nat} {o : Oper} {K : Act → World → Prop} {a : Act} {w : World} (ho : ops[i]? = some o) (hg : o.guard = none) (h : o.wp Try.prog a w K Q) : wpOp Try.prog ops Q i K a w := by
  unfold wpOp
  rw [ho]
  simp only [Region.wanted, hg, if_true]
  exact Or.inl h



/-- Each operation writes a slot of ds inside the frame, no two the same. -/
def slotsG (ops : Array Oper) (ds : List Tmp) (n : Nat) : Bool :=
  ops.all (fun o => match o.dst with | some d => ds.contains d && decide (d < n) | none => true) &&
  (List.range ops.size).all fun i => (List.range ops.size).all fun j => decide (i = j) || (match dstOf ops i, dstOf ops j with | some d, some d' => d != d' | _, _ => true)

structure SlotsG (ops : Array Oper) (ds : List Tmp) (n : Nat) : Prop where
  dst : ∀ (i : Nat) (o : Oper) (d : Tmp), ops[i]? = some o → o.dst = some d → d ∈ ds ∧ d < n
  apart : ∀ (i j : Nat) (o : Oper) (d : Tmp), ops[i]? = some o → i ≠ j → dstOf ops j = some d → o.dst ≠ some d

theorem slotsG_spec {ops : Array Oper} {ds : List Tmp} {n : Nat} (h : slotsG ops ds n = true) : SlotsG ops ds n := by
  unfold slotsG at h
  rw [Bool.and_eq_true] at h
  obtain ⟨h1, h2⟩ := h
  rw [Array.all_eq_true_iff_forall_mem] at h1
  refine ⟨fun i o d ho hd => ?_, fun i j o d ho hij hd => ?_⟩
  · have := h1 o (Array.mem_of_getElem? ho)
    rw [hd] at this
    simpa using this
  · intro hod
    have hi := lt_of_get ho
    have hj : j < ops.size := by
      unfold dstOf at hd
      cases hq : ops[j]? with
      | none => rw [hq] at hd; cases hd
      | some o' => exact lt_of_get hq
    have := List.all_eq_true.1 (List.all_eq_true.1 h2 i (List.mem_range.2 hi)) j (List.mem_range.2 hj)
    rw [hd, show dstOf ops i = some d by unfold dstOf; rw [ho]; exact hod] at this
    simp [hij] at this

theorem gotG_same {ops : Array Oper} {ds : List Tmp} {T : Array Value} (so : SlotsG ops ds T.size) {a : Act} (hk : Kept ds T a) {i : Nat} {o : Oper} (ho : ops[i]? = some o) {d : Tmp} (hd : o.dst = some d) (v : Value) : got ops (a.put o.dst v) i = v := by
  have e : dstOf ops i = some d := by unfold dstOf; rw [ho]; exact hd
  unfold got
  rw [e, hd]
  exact slot_put_same hk (so.dst i o d ho hd).2 v

theorem gotG_other {ops : Array Oper} {ds : List Tmp} {n : Nat} (so : SlotsG ops ds n) (a : Act) {i j : Nat} {o : Oper} (ho : ops[i]? = some o) (hij : i ≠ j) (v : Value) : got ops (a.put o.dst v) j = got ops a j := by
  unfold got
  cases e : dstOf ops j with
  | none => rfl
  | some d => exact slot_put_other a (so.apart i j o d ho hij e) v

section
variable {ops : Array Oper} {T : Array Value} {ds : List Tmp} {W : World} {S : Nat → Value → World → Prop}
variable {deps : Nat → List Nat} {Q : Exit → Act → World → Prop} {id : Nat}

/-- The operation j has left a bool: so much for a guard on j. -/
theorem wpOp_guard {i j : Nat} {o : Oper} {K : Act → World → Prop} {a : Act} {w : World} {b want : Bool} {d : Tmp} (ho : ops[i]? = some o) (hg : o.guard = some (j, want)) (hd : dstOf ops j = some d)
    (hv : slot a d = .bool b) (hyes : b = want → o.wp Try.prog a w K Q) (hno : b ≠ want → K (a.put o.dst undef) w) : wpOp Try.prog ops Q i K a w := by
  unfold wpOp
  rw [ho]
  have hy : yielded ops a.tmps j = some b := by
    unfold yielded
    unfold dstOf at hd
    rw [hd]
    unfold slot at hv
    simp only [Option.bind_some]
    cases hq : a.tmps[d]? with
    | none => rw [hq] at hv; cases hv
    | some v => rw [hq] at hv; simp only [Option.getD_some] at hv; rw [hv]
  simp only [Region.wanted, hg, hy]
  by_cases hb : b = want
  · subst hb
    simp only [beq_self_eq_true, if_true]
    exact Or.inl (hyes rfl)
  · have : (some b == some want) = false := by simpa using hb
    rw [this]
    exact hno hb

theorem wp_region_vals (hb : edgesBack ops = true) (so : SlotsG ops ds T.size) (dok : depsOk ops deps = true) (stays : ∀ i v w w', S i v w → Below w.heap.size w w' → S i v w')
    (hval : ∀ i o, ops[i]? = some o → (∃ d, o.dst = some d) ∧ ∀ a w, Kept ds T a → Below W.heap.size W w → (∀ j ∈ deps i, S j (got ops a j) w) →
      wpOp Try.prog ops Q i (fun a' w' => ∃ v, a' = a.put o.dst v ∧ S i v w' ∧ Below w.heap.size w w') a w)
    {w : World} (hW : W = w)
    (hK : ∀ a' w', Kept ds T a' → Below W.heap.size W w' → (∀ i, i < ops.size → S i (got ops a' i) w') → Q .normal a' w') :
    (Code.region id ops true).wp Try.prog Q ⟨T, []⟩ w := by
  subst hW
  refine wp_region_inv (fun listed a w => Kept ds T a ∧ Below W.heap.size W w ∧ ∀ i, listed[i]? = some true → S i (got ops a i) w) ?_ ?_ ?_
  · refine ⟨Kept.refl _ _, (Below.refl _ _).drew, fun i h => ?_⟩
    rw [Array.getElem?_replicate] at h
    split at h <;> simp at h
  · intro listed a w i o hs ⟨hk, hbw, hv⟩ ho hf haf
    have hi := lt_of_get ho
    have hil : i < listed.size := by omega
    obtain ⟨⟨d, hd⟩, hw⟩ := hval i o ho
    refine wpOp_mono ?_ (hw a w hk hbw fun j hj => hv j (depsOk_spec dok ho hj haf))
    rintro a' w' ⟨v, rfl, hsv, hbn⟩
    refine ⟨hk.put (fun d hd => (so.dst i o d ho hd).1) v, hbw.trans (hbn.mono hbw.size), fun j hl => ?_⟩
    by_cases hij : i = j
    · subst hij; rw [gotG_same so hk ho hd v]; exact hsv
    · rw [get_set_other hij] at hl
      rw [gotG_other so a ho hij v]
      exact stays j _ _ _ (hv j hl) hbn
  · intro listed a w hs hr ⟨hk, hbw, hv⟩
    exact hK a w hk hbw fun i hi => hv i (all_listed hs hb hr i hi)
end


end Go.Proofs.Qxb6612866a
