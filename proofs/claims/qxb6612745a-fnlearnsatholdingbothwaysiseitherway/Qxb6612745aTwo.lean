/- A tree of two entries, laid in one statement whose order Go leaves open: 'Tree{p: .., q: ..}'. -/
import Derived.Test.Qxb6612745aRegion
namespace Go.Proofs.Qxb6612745a
open Go.RowKit

/-- The operation i writes slot t (or none). -/
def dstOf (ops : Array Oper) (i : Nat) : Option Tmp := (ops[i]?).bind (·.dst)

/-- The j's of deps i are all ahead of i by the region's own edges. -/
def depsOk (ops : Array Oper) (deps : Nat → List Nat) : Bool :=
  (List.range ops.size).all fun i => (deps i).all fun j => ((ops[i]?).map fun o => o.after.any fun e => Region.binds .any e && e.on == j).getD false

theorem depsOk_spec {ops : Array Oper} {deps : Nat → List Nat} (h : depsOk ops deps = true) {i j : Nat} {o : Oper} (ho : ops[i]? = some o) (hj : j ∈ deps i) {listed : Array Bool}
    (haf : ∀ e ∈ o.after, Region.binds .any e = true → listed[e.on]? = some true) : listed[j]? = some true := by
  have hi : i < ops.size := by
    rcases Nat.lt_or_ge i ops.size with h | h
    · exact h
    · rw [Array.getElem?_eq_none h] at ho; cases ho
  have := List.all_eq_true.1 (List.all_eq_true.1 h i (List.mem_range.2 hi)) j hj
  rw [ho] at this
  simp only [Option.map_some, Option.getD_some, Array.any_eq_true] at this
  obtain ⟨ix, hix, hb⟩ := this
  have he : o.after[ix] ∈ o.after := Array.getElem_mem hix
  generalize o.after[ix] = e at he hb
  simp only [Bool.and_eq_true, beq_iff_eq] at hb
  have := haf e he hb.1
  rwa [hb.2] at this

/-- No operation bears a guard; each writes a slot of ds inside the frame, no two the same. -/
def slotsOk (ops : Array Oper) (ds : List Tmp) (n : Nat) : Bool :=
  ops.all (fun o => o.guard.isNone && (match o.dst with | some d => ds.contains d && decide (d < n) | none => true)) &&
  (List.range ops.size).all fun i => (List.range ops.size).all fun j => decide (i = j) || (match dstOf ops i, dstOf ops j with | some d, some d' => d != d' | _, _ => true)

structure SlotsOk (ops : Array Oper) (ds : List Tmp) (n : Nat) : Prop where
  guard : ∀ (i : Nat) (o : Oper), ops[i]? = some o → o.guard = none
  dst : ∀ (i : Nat) (o : Oper) (d : Tmp), ops[i]? = some o → o.dst = some d → d ∈ ds ∧ d < n
  apart : ∀ (i j : Nat) (o : Oper) (d : Tmp), ops[i]? = some o → i ≠ j → dstOf ops j = some d → o.dst ≠ some d

theorem lt_of_get {α : Type} {a : Array α} {i : Nat} {x : α} (h : a[i]? = some x) : i < a.size := by
  rcases Nat.lt_or_ge i a.size with h' | h'
  · exact h'
  · rw [Array.getElem?_eq_none h'] at h; cases h

theorem slotsOk_spec {ops : Array Oper} {ds : List Tmp} {n : Nat} (h : slotsOk ops ds n = true) : SlotsOk ops ds n := by
  unfold slotsOk at h
  rw [Bool.and_eq_true] at h
  obtain ⟨h1, h2⟩ := h
  rw [Array.all_eq_true_iff_forall_mem] at h1
  refine ⟨fun i o ho => ?_, fun i o d ho hd => ?_, fun i j o d ho hij hd => ?_⟩
  · have := h1 o (Array.mem_of_getElem? ho)
    rw [Bool.and_eq_true] at this
    simpa using this.1
  · have := h1 o (Array.mem_of_getElem? ho)
    rw [Bool.and_eq_true, hd] at this
    simpa using this.2
  · intro hod
    have hi := lt_of_get ho
    have hj : j < ops.size := by
      unfold dstOf at hd
      cases hq : ops[j]? with
      | none => rw [hq] at hd; cases hd
      | some o' => exact lt_of_get hq
    have := List.all_eq_true.1 (List.all_eq_true.1 h2 i (List.mem_range.2 hi)) j (List.mem_range.2 hj)
    rw [hd, show dstOf ops i = some d by unfold dstOf; rw [ho]; exact hod] at this
    simp [hij] at this

section
variable (ops : Array Oper) (T : Array Value) (ds : List Tmp) (W : World) (p q : ByteArray) (S : Nat → Value → World → Prop)
variable (iM iP iQ iX iA iE iF : Nat)

/-- The value that operation i has left. -/
def got (a : Act) (i : Nat) : Value := match dstOf ops i with | some d => slot a d | none => undef

/-- What holds of the tree so far. -/
def TreeSoFar (listed : Array Bool) (a : Act) (w : World) : Prop :=
  listed[iM]? = some true → ∃ b f, got ops a iM = .map (some b) ∧ W.heap.size ≤ b ∧ Maps w b f ∧ (∀ k, k ≠ p → k ≠ q → f k = none) ∧
    (listed[iP]? = some true → ∃ v, f p = some v ∧ S iE v w) ∧ (listed[iP]? ≠ some true → f p = none) ∧
    (listed[iQ]? = some true → ∃ v, f q = some v ∧ S iF v w) ∧ (listed[iQ]? ≠ some true → f q = none)

/-- The invariant. -/
def TwoInv (listed : Array Bool) (a : Act) (w : World) : Prop :=
  Kept ds T a ∧ Below W.heap.size W w ∧ (∀ i, i ≠ iM → i ≠ iP → i ≠ iQ → i ≠ iX → i ≠ iA → listed[i]? = some true → S i (got ops a i) w) ∧ TreeSoFar ops W p q S iM iP iQ iE iF listed a w ∧
    (listed[iX]? = some true → got ops a iX = got ops a iM) ∧ (listed[iA]? = some true → got ops a iA = got ops a iM) ∧
    (listed[iP]? = some true ∨ listed[iQ]? = some true ∨ listed[iX]? = some true ∨ listed[iA]? = some true → listed[iM]? = some true)
end

theorem get_set_same {listed : Array Bool} {i : Nat} (h : i < listed.size) : (listed.setIfInBounds i true)[i]? = some true := by
  rw [Array.getElem?_setIfInBounds]; simp [h]
theorem get_set_other {listed : Array Bool} {i j : Nat} (h : i ≠ j) : (listed.setIfInBounds i true)[j]? = listed[j]? := Array.getElem?_setIfInBounds_ne h

theorem got_put_same {ops : Array Oper} {ds : List Tmp} {T : Array Value} (so : SlotsOk ops ds T.size) {a : Act} (hk : Kept ds T a) {i : Nat} {o : Oper} (ho : ops[i]? = some o) {d : Tmp} (hd : o.dst = some d) (v : Value) : got ops (a.put o.dst v) i = v := by
  have e : dstOf ops i = some d := by unfold dstOf; rw [ho]; exact hd
  unfold got
  rw [e, hd]
  exact slot_put_same hk (so.dst i o d ho hd).2 v

theorem got_put_other {ops : Array Oper} {ds : List Tmp} {n : Nat} (so : SlotsOk ops ds n) (a : Act) {i j : Nat} {o : Oper} (ho : ops[i]? = some o) (hij : i ≠ j) (v : Value) : got ops (a.put o.dst v) j = got ops a j := by
  unfold got
  cases e : dstOf ops j with
  | none => rfl
  | some d => exact slot_put_other a (so.apart i j o d ho hij e) v

/-- A property of a value and a world that new memory, and a tree's own writes, leave alone. -/
def Stays (S : Value → World → Prop) : Prop :=
  (∀ v w w', S v w → Below w.heap.size w w' → S v w') ∧ (∀ v w w' m f, S v w → Maps w m f → Turned w w' m → S v w')

section
variable {ops : Array Oper} {T : Array Value} {ds : List Tmp} {W : World} {p q : ByteArray} {S : Nat → Value → World → Prop}
variable {iM iP iQ iX iA iE iF : Nat} {deps : Nat → List Nat} {Q : Exit → Act → World → Prop} {id : Nat}

theorem wpOp_of {i : Nat} {o : Oper} {K : Act → World → Prop} {a : Act} {w : World} (ho : ops[i]? = some o) (hg : o.guard = none) (h : o.wp Try.prog a w K Q) : wpOp Try.prog ops Q i K a w := by
  unfold wpOp
  rw [ho]
  simp only [Region.wanted, hg, if_true]
  exact Or.inl h

/-- What the tree holds stays while another operation is carried out that makes memory, or none. -/
theorem TreeSoFar.step {listed : Array Bool} {a a' : Act} {w w' : World} {i : Nat} (h : TreeSoFar ops W p q S iM iP iQ iE iF listed a w) (h1 : i ≠ iM) (h2 : i ≠ iP) (h3 : i ≠ iQ) (hg : got ops a' iM = got ops a iM)
    (hb : Below w.heap.size w w') (stays : ∀ i, Stays (S i)) : TreeSoFar ops W p q S iM iP iQ iE iF (listed.setIfInBounds i true) a' w' := by
  unfold TreeSoFar at h ⊢
  rw [get_set_other h1, get_set_other h2, get_set_other h3, hg]
  intro hl
  obtain ⟨b, f, e1, e2, e3, e4, e5, e6, e7, e8⟩ := h hl
  refine ⟨b, f, e1, e2, e3.below hb, e4, fun k => ?_, e6, fun k => ?_, e8⟩
  · obtain ⟨v, hv, hs⟩ := e5 k
    exact ⟨v, hv, (stays _).1 _ _ _ hs hb⟩
  · obtain ⟨v, hv, hs⟩ := e7 k
    exact ⟨v, hv, (stays _).1 _ _ _ hs hb⟩

/-- Of the operations that lead to values or into the tree, none waits for the tree's own. -/
def depsPlain (ops : Array Oper) (deps : Nat → List Nat) (iP iQ iX iA : Nat) : Bool :=
  (List.range ops.size).all fun i => decide (i = iX) || decide (i = iA) || (deps i).all fun j => decide (j ≠ iP) && decide (j ≠ iQ) && decide (j ≠ iX) && decide (j ≠ iA)

theorem wp_region_two (hdp : depsPlain ops deps iP iQ iX iA = true) (hb : edgesBack ops = true) (so : SlotsOk ops ds T.size) (dok : depsOk ops deps = true) (stays : ∀ i, Stays (S i)) (hpq : q ≠ p)
    (hn : iM < ops.size ∧ iP < ops.size ∧ iQ < ops.size ∧ iX < ops.size ∧ iA < ops.size)
    (hne : iM ≠ iP ∧ iM ≠ iQ ∧ iM ≠ iX ∧ iM ≠ iA ∧ iP ≠ iQ ∧ iP ≠ iX ∧ iP ≠ iA ∧ iQ ≠ iX ∧ iQ ≠ iA ∧ iX ≠ iA)
    (hEv : iE ≠ iM ∧ iE ≠ iP ∧ iE ≠ iQ ∧ iE ≠ iX ∧ iE ≠ iA) (hFv : iF ≠ iM ∧ iF ≠ iP ∧ iF ≠ iQ ∧ iF ≠ iX ∧ iF ≠ iA)
    (hM : ∃ o d, ops[iM]? = some o ∧ o.op = .makeMap 36 none ∧ o.dst = some d)
    (hP : ∃ o tm te xp, ops[iP]? = some o ∧ o.op = .insert 36 (.tmp tm) xp (.tmp te) ∧ o.dst = none ∧ dstOf ops iM = some tm ∧ dstOf ops iE = some te ∧
      (∀ a w, Kept ds T a → (∀ j ∈ deps iP, S j (got ops a j) w) → a.eval xp = .string p) ∧ iM ∈ deps iP ∧ iE ∈ deps iP)
    (hQ : ∃ o tm te xq, ops[iQ]? = some o ∧ o.op = .insert 36 (.tmp tm) xq (.tmp te) ∧ o.dst = none ∧ dstOf ops iM = some tm ∧ dstOf ops iF = some te ∧
      (∀ a w, Kept ds T a → (∀ j ∈ deps iQ, S j (got ops a j) w) → a.eval xq = .string q) ∧ iM ∈ deps iQ ∧ iF ∈ deps iQ)
    (hX : ∃ o tm d, ops[iX]? = some o ∧ o.op = .move (.tmp tm) ∧ o.dst = some d ∧ dstOf ops iM = some tm ∧ iM ∈ deps iX)
    (hA : ∃ o tx d, ops[iA]? = some o ∧ o.op = .assign (.tmp tx) ∧ o.dst = some d ∧ dstOf ops iX = some tx ∧ iX ∈ deps iA ∧ iM ∈ deps iA)
    (hSM : ∀ v w, S iM v w) 
    (hval : ∀ i o, i ≠ iM → i ≠ iP → i ≠ iQ → i ≠ iX → i ≠ iA → ops[i]? = some o → (∃ d, o.dst = some d) ∧ ∀ a w, Kept ds T a → Below W.heap.size W w → (∀ j ∈ deps i, S j (got ops a j) w) →
      o.wp Try.prog a w (fun a' w' => ∃ v, a' = a.put o.dst v ∧ S i v w' ∧ Below w.heap.size w w') Q)
    {w : World} (hW : W = w)
    (hK : ∀ a' w' b f vp vq, Kept ds T a' → Below W.heap.size W w' → got ops a' iA = .map (some b) → Maps w' b f → (∀ k, k ≠ p → k ≠ q → f k = none) → f p = some vp → S iE vp w' → f q = some vq → S iF vq w' → Q .normal a' w') :
    (Code.region id ops true).wp Try.prog Q ⟨T, []⟩ w := by
  subst hW
  refine wp_region_inv (TwoInv ops T ds W p q S iM iP iQ iX iA iE iF) ?_ ?_ ?_
  · have hno : ∀ i : Nat, (Array.replicate ops.size false)[i]? ≠ some true := by
      intro i h
      rw [Array.getElem?_replicate] at h
      split at h <;> simp at h
    refine ⟨Kept.refl _ _, (Below.refl _ _).drew, fun i _ _ _ _ _ h => absurd h (hno i), fun h => absurd h (hno _), fun h => absurd h (hno _), fun h => absurd h (hno _), fun h => by rcases h with h | h | h | h <;> exact absurd h (hno _)⟩
  · intro listed a w i o hs hI ho hf haf
    obtain ⟨hk, hbw, hv, htree, hx, ha, hdown⟩ := hI
    have hi := lt_of_get ho
    have hil : i < listed.size := by omega
    have hdep : ∀ j ∈ deps i, listed[j]? = some true := fun j hj => depsOk_spec dok ho hj haf
    have sdep : i ≠ iX → i ≠ iA → ∀ j ∈ deps i, S j (got ops a j) w := by
      intro h1 h2 j hj
      have := List.all_eq_true.1 hdp i (List.mem_range.2 hi)
      simp only [h1, h2, decide_false, Bool.false_or] at this
      have := List.all_eq_true.1 this j hj
      simp only [Bool.and_eq_true, decide_eq_true_eq] at this
      obtain ⟨⟨⟨n1, n2⟩, n3⟩, n4⟩ := this
      by_cases hjM : j = iM
      · rw [hjM]; exact hSM _ _
      · exact hv j hjM n1 n2 n3 n4 (hdep j hj)
    have hg := so.guard i o ho
    have hput : ∀ v, Kept ds T (a.put o.dst v) := fun v => hk.put (fun d hd => (so.dst i o d ho hd).1) v
    have gother : ∀ j v, i ≠ j → got ops (a.put o.dst v) j = got ops a j := fun j v hij => got_put_other so a ho hij v
    obtain ⟨n1, n2, n3, n4, n5, n6, n7, n8, n9, n10⟩ := hne
    by_cases eM : i = iM
    · subst eM
      obtain ⟨o', d, ho', hop, hd⟩ := hM
      obtain rfl : o = o' := by rw [ho] at ho'; exact Option.some.inj ho'
      refine wpOp_of ho hg ?_
      unfold Oper.wp execOp
      simp only [hop, Sem.run_bind]
      have hnot : listed[i]? ≠ some true := by rw [hf]; simp
      have f1 : listed[iP]? ≠ some true := fun h => hnot (hdown (Or.inl h))
      have f2 : listed[iQ]? ≠ some true := fun h => hnot (hdown (Or.inr (Or.inl h)))
      have f3 : listed[iX]? ≠ some true := fun h => hnot (hdown (Or.inr (Or.inr (Or.inl h))))
      have f4 : listed[iA]? ≠ some true := fun h => hnot (hdown (Or.inr (Or.inr (Or.inr h))))
      refine ⟨hput _, hbw.alloc hbw.size _, fun j j1 j2 j3 j4 j5 hl => ?_, fun _ => ?_, fun hl => ?_, fun hl => ?_, fun _ => get_set_same hil⟩
      · rw [get_set_other (Ne.symm j1)] at hl
        rw [gother j _ (Ne.symm j1)]
        exact (stays j).1 _ _ _ (hv j j1 j2 j3 j4 j5 hl) (below_alloc w _)
      · rw [get_set_other n1, get_set_other n2]
        refine ⟨w.heap.size, fun _ => none, got_put_same so hk ho hd _, hbw.size, maps_made w, fun _ _ _ => rfl, fun h => absurd h f1, fun _ => rfl, fun h => absurd h f2, fun _ => rfl⟩
      · rw [get_set_other n3] at hl; exact absurd hl f3
      · rw [get_set_other n4] at hl; exact absurd hl f4
    by_cases eP : i = iP
    · subst eP
      obtain ⟨o', tm, te, xp, ho', hop, hd, hdm, hde, hxp, hdM, hdE⟩ := hP
      obtain rfl : o = o' := by rw [ho] at ho'; exact Option.some.inj ho'
      have sd := sdep n6 n7
      obtain ⟨b, f, e1, e2, e3, e4, e5, e6, e7, e8⟩ := htree (hdep iM hdM)
      have hnot : listed[i]? ≠ some true := by rw [hf]; simp
      have hm1 : a.eval (.tmp tm) = .map (some b) := by rw [slot_eval, ← e1]; unfold got; rw [hdm]
      have hm2 : a.eval (.tmp te) = got ops a iE := by rw [slot_eval]; unfold got; rw [hde]
      obtain ⟨w', hr, hm', ht⟩ := e3.put (e6 hnot) (got ops a iE)
      have hsE := sd iE hdE
      have hput0 : a.put o.dst undef = a := by rw [hd]; rfl
      refine wpOp_of ho hg ?_
      unfold Oper.wp execOp
      simp only [hop, hm1, hm2, hxp a w hk sd, Sem.run_bind, hr, Result.andThen_ok]
      show TwoInv ops T ds W p q S iM i iQ iX iA iE iF _ (a.put o.dst undef) w'
      rw [hput0]
      refine ⟨hk, hbw.trans (ht.below e2), fun j j1 j2 j3 j4 j5 hl => ?_, fun _ => ?_, fun hl => ?_, fun hl => ?_, fun _ => by rw [get_set_other (Ne.symm n1)]; exact hdep iM hdM⟩
      · rw [get_set_other (Ne.symm j2)] at hl
        exact (stays j).2 _ _ _ _ _ (hv j j1 j2 j3 j4 j5 hl) e3 ht
      · rw [get_set_other n5]
        refine ⟨b, _, e1, e2, hm', fun k k1 k2 => by rw [if_neg k1]; exact e4 k k1 k2, fun _ => ⟨_, if_pos rfl, (stays _).2 _ _ _ _ _ hsE e3 ht⟩, fun h => absurd (get_set_same hil) h, fun h => ?_, fun h => by rw [if_neg hpq]; exact e8 h⟩
        obtain ⟨v, hv1, hv2⟩ := e7 h
        exact ⟨v, by rw [if_neg hpq]; exact hv1, (stays _).2 _ _ _ _ _ hv2 e3 ht⟩
      · rw [get_set_other n6] at hl; exact hx hl
      · rw [get_set_other n7] at hl; exact ha hl
    by_cases eQ : i = iQ
    · subst eQ
      obtain ⟨o', tm, te, xp, ho', hop, hd, hdm, hde, hxp, hdM, hdE⟩ := hQ
      obtain rfl : o = o' := by rw [ho] at ho'; exact Option.some.inj ho'
      have sd := sdep n8 n9
      obtain ⟨b, f, e1, e2, e3, e4, e5, e6, e7, e8⟩ := htree (hdep iM hdM)
      have hnot : listed[i]? ≠ some true := by rw [hf]; simp
      have hm1 : a.eval (.tmp tm) = .map (some b) := by rw [slot_eval, ← e1]; unfold got; rw [hdm]
      have hm2 : a.eval (.tmp te) = got ops a iF := by rw [slot_eval]; unfold got; rw [hde]
      obtain ⟨w', hr, hm', ht⟩ := e3.put (e8 hnot) (got ops a iF)
      have hsE := sd iF hdE
      have hput0 : a.put o.dst undef = a := by rw [hd]; rfl
      refine wpOp_of ho hg ?_
      unfold Oper.wp execOp
      simp only [hop, hm1, hm2, hxp a w hk sd, Sem.run_bind, hr, Result.andThen_ok]
      show TwoInv ops T ds W p q S iM iP i iX iA iE iF _ (a.put o.dst undef) w'
      rw [hput0]
      refine ⟨hk, hbw.trans (ht.below e2), fun j j1 j2 j3 j4 j5 hl => ?_, fun _ => ?_, fun hl => ?_, fun hl => ?_, fun _ => by rw [get_set_other (Ne.symm n2)]; exact hdep iM hdM⟩
      · rw [get_set_other (Ne.symm j3)] at hl
        exact (stays j).2 _ _ _ _ _ (hv j j1 j2 j3 j4 j5 hl) e3 ht
      · rw [get_set_other (Ne.symm n5)]
        refine ⟨b, _, e1, e2, hm', fun k k1 k2 => by rw [if_neg k2]; exact e4 k k1 k2, fun h => ?_, fun h => by rw [if_neg hpq.symm]; exact e6 h, fun _ => ⟨_, if_pos rfl, (stays _).2 _ _ _ _ _ hsE e3 ht⟩, fun h => absurd (get_set_same hil) h⟩
        obtain ⟨v, hv1, hv2⟩ := e5 h
        exact ⟨v, by rw [if_neg hpq.symm]; exact hv1, (stays _).2 _ _ _ _ _ hv2 e3 ht⟩
      · rw [get_set_other n8] at hl; exact hx hl
      · rw [get_set_other n9] at hl; exact ha hl
    by_cases eX : i = iX
    · subst eX
      obtain ⟨o', tm, d, ho', hop, hd, hdm, hdM⟩ := hX
      obtain rfl : o = o' := by rw [ho] at ho'; exact Option.some.inj ho'
      have hm1 : a.eval (.tmp tm) = got ops a iM := by rw [slot_eval]; unfold got; rw [hdm]
      refine wpOp_of ho hg ?_
      unfold Oper.wp execOp
      simp only [hop, hm1]
      refine ⟨hput _, hbw, fun j j1 j2 j3 j4 j5 hl => ?_, htree.step (Ne.symm n3) (Ne.symm n6) (Ne.symm n8) (gother iM _ (Ne.symm n3)) (Below.refl _ _) stays, fun _ => ?_, fun hl => ?_, fun _ => by rw [get_set_other (Ne.symm n3)]; exact hdep iM hdM⟩
      · rw [get_set_other (Ne.symm j4)] at hl
        rw [gother j _ (Ne.symm j4)]
        exact hv j j1 j2 j3 j4 j5 hl
      · rw [gother iM _ (Ne.symm n3)]; exact got_put_same so hk ho hd _
      · rw [get_set_other n10] at hl
        rw [gother iA _ n10, gother iM _ (Ne.symm n3)]; exact ha hl
    by_cases eA : i = iA
    · subst eA
      obtain ⟨o', tx, d, ho', hop, hd, hdx, hdX, hdM⟩ := hA
      obtain rfl : o = o' := by rw [ho] at ho'; exact Option.some.inj ho'
      have hm1 : a.eval (.tmp tx) = got ops a iM := by rw [slot_eval, ← hx (hdep iX hdX)]; unfold got; rw [hdx]
      refine wpOp_of ho hg ?_
      unfold Oper.wp execOp
      simp only [hop, hm1]
      refine ⟨hput _, hbw, fun j j1 j2 j3 j4 j5 hl => ?_, htree.step (Ne.symm n4) (Ne.symm n7) (Ne.symm n9) (gother iM _ (Ne.symm n4)) (Below.refl _ _) stays, fun hl => ?_, fun _ => ?_, fun _ => by rw [get_set_other (Ne.symm n4)]; exact hdep iM hdM⟩
      · rw [get_set_other (Ne.symm j5)] at hl
        rw [gother j _ (Ne.symm j5)]
        exact hv j j1 j2 j3 j4 j5 hl
      · rw [get_set_other (Ne.symm n10)] at hl
        rw [gother iX _ (Ne.symm n10), gother iM _ (Ne.symm n4)]; exact hx hl
      · rw [gother iM _ (Ne.symm n4)]; exact got_put_same so hk ho hd _
    · obtain ⟨⟨d, hd⟩, hw⟩ := hval i o eM eP eQ eX eA ho
      refine wpOp_of ho hg (Oper.wp_mono ?_ (hw a w hk hbw (sdep eX eA)))
      rintro a' w' ⟨v, rfl, hsv, hbn⟩
      refine ⟨hput v, hbw.trans (hbn.mono hbw.size), fun j j1 j2 j3 j4 j5 hl => ?_, htree.step eM eP eQ (gother iM _ eM) hbn stays, fun hl => ?_, fun hl => ?_, fun hl => ?_⟩
      · by_cases hij : i = j
        · subst hij; rw [got_put_same so hk ho hd v]; exact hsv
        · rw [get_set_other hij] at hl
          rw [gother j _ hij]
          exact (stays j).1 _ _ _ (hv j j1 j2 j3 j4 j5 hl) hbn
      · rw [get_set_other eX] at hl
        rw [gother iX _ eX, gother iM _ eM]; exact hx hl
      · rw [get_set_other eA] at hl
        rw [gother iA _ eA, gother iM _ eM]; exact ha hl
      · rw [get_set_other eP, get_set_other eQ, get_set_other eX, get_set_other eA] at hl
        rw [get_set_other eM]; exact hdown hl
  · intro listed a w hs hr ⟨hk, hbw, _, htree, hx, ha, _⟩
    have all := all_listed hs hb hr
    obtain ⟨b, f, hb0, _, hm, ho, hp, _, hq, _⟩ := htree (all _ hn.1)
    obtain ⟨vp, hvp, hsp⟩ := hp (all _ hn.2.1)
    obtain ⟨vq, hvq, hsq⟩ := hq (all _ hn.2.2.1)
    exact hK a w b f vp vq hk hbw (by rw [ha (all _ hn.2.2.2.2), hb0]) hm ho hvp hsp hvq hsq
end

end Go.Proofs.Qxb6612745a
