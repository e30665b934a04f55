/- makeEager (22) and its door (13). -/
import Derived.Test.Qxb6612866aLast
import Derived.Deep.CutRange
namespace Go.Proofs.Qxb6612866a
open Go.RowKit

section
variable {o : Oper} {a : Act} {w : World} {K : Act → World → Prop} {Q : Exit → Act → World → Prop}

theorem wp_nilCheck (x : Operand) (hop : o.op = .nilCheck x) {p : Addr} (hx : a.eval x = .pointer (some p)) (h : K (a.put o.dst (.pointer (some p))) w) : o.wp Try.prog a w K Q := by
  unfold Oper.wp execOp
  simp only [hop, hx]
  exact h
theorem run_field63o (w : World) (b : Nat) : (Instr.fieldAt 63 (.pointer (some ⟨b, 0, none⟩)) 10).run Try.prog w = .ok (.pointer (some ⟨b, 17, none⟩)) w := by kernel_rfl
theorem run_field63u (w : World) (b : Nat) : (Instr.fieldAt 63 (.pointer (some ⟨b, 0, none⟩)) 8).run Try.prog w = .ok (.pointer (some ⟨b, 15, none⟩)) w := by kernel_rfl
theorem wp_field63o (x : Operand) (hop : o.op = .fieldAddr 63 x 10) {b : Nat} (hx : a.eval x = .pointer (some ⟨b, 0, none⟩)) (h : K (a.put o.dst (.pointer (some ⟨b, 17, none⟩))) w) : o.wp Try.prog a w K Q := by
  unfold Oper.wp execOp
  simp only [hop, hx, Sem.run_bind, run_field63o, Result.andThen_ok, Sem.run_pure]
  exact h
theorem wp_field63u (x : Operand) (hop : o.op = .fieldAddr 63 x 8) {b : Nat} (hx : a.eval x = .pointer (some ⟨b, 0, none⟩)) (h : K (a.put o.dst (.pointer (some ⟨b, 15, none⟩))) w) : o.wp Try.prog a w K Q := by
  unfold Oper.wp execOp
  simp only [hop, hx, Sem.run_bind, run_field63u, Result.andThen_ok, Sem.run_pure]
  exact h
theorem isAgg22 (w : World) : (isAgg 22).run Try.prog w = .ok false w := by kernel_rfl
theorem wp_load22 (x : Operand) (hop : o.op = .load 22 x) {b i : Nat} {v : Value} (hx : a.eval x = .pointer (some ⟨b, i, none⟩)) (hc : w.cell? ⟨b, i, none⟩ = some v) (h : K (a.put o.dst v) w) : o.wp Try.prog a w K Q := by
  unfold Oper.wp execOp
  simp only [hop, hx, Instr.loadAt, Instr.sureAddr, loadVar, Sem.run_bind, Sem.run_pure, Result.andThen_ok, isAgg22, Bool.false_eq_true, if_false, run_load, hc]
  exact h

theorem wp_callR {f : FuncId} {fn : Func} {args : Array Operand} {ats : Array TypeId} (hop : o.op = .call { callee := .value (.func f), args, argTypes := ats })
    (hf : Try.prog.funcs[f]? = some fn) (hname : (fn.name == "runtime.NumGoroutine") = false) (hb : fn.body.isNone = false) {vs : Array Value} (hargs : args.map a.eval = vs) {R : Ending → World → Prop} (hc : Calls Try.prog f vs w R)
    (hp : ∀ e w', R e w' → ∃ v, e = .returned v) (h : ∀ v w', R (.returned v) w' → K (a.put o.dst v) w') : o.wp Try.prog a w K Q := by
  unfold Oper.wp
  rw [run_call_go hop hf hname hb, hargs]
  refine hc.mono ?_
  rintro e w' hR
  obtain ⟨v, rfl⟩ := hp e w' hR
  exact h v w' hR
end

/-- The debts of a node: none made yet, or a map of its own. -/
def Ow (w : World) (B bn : Nat) (lz ow : Value) (n : Nat) (f : Int → Option Value) : Prop :=
  (ow = .map none ∧ n = 0 ∧ ∀ s, f s = none) ∨ ∃ gm, ow = .map (some gm) ∧ B ≤ gm ∧ gm ≠ bn ∧ blockOf lz ≠ some gm ∧ Maps w gm n f

/-- Of the blocks that were there, only the node's, that of its lazy flags and that of its debts may have changed. -/
def KeptBut3 (w w' : World) (bn : Nat) (lz ow : Value) : Prop := w.heap.size ≤ w'.heap.size ∧ ∀ k, k < w.heap.size → k ≠ bn → blockOf lz ≠ some k → ow ≠ .map (some k) → w'.heap[k]? = w.heap[k]?

/-- The debt that is left. -/
def Debt (w w' : World) (lz' : Value) (u : List Int) (v : Int) (n : Nat) (f : Int → Option Value) (n' : Nat) (f' : Int → Option Value) : Prop :=
  (u = [] ∧ n' = n ∧ f' = f) ∨ (u ≠ [] ∧ n' = n + 1 ∧ ∃ g c, f' = (fun s => if s = v then some (.slice (some ⟨g, 0, none⟩) u.length c) else f s) ∧ w.heap.size ≤ g ∧ blockOf lz' ≠ some g ∧ Row w' (some ⟨g, 0, none⟩) u)

theorem Lz.below {w w' : World} {B bn : Nat} {an : Option Addr} {lz : Value} {F : List Bool} (h : Lz w B bn an lz F) (hb : Below w.heap.size w w') : Lz w' B bn an lz F := by
  rcases h with h | ⟨g, h1, h2, h3, h4, h5⟩
  · exact Or.inl h
  · exact Or.inr ⟨g, h1, h2, h3, h4, h5.below hb⟩

theorem Lz.lt {w : World} {B bn : Nat} {an : Option Addr} {lz : Value} {F : List Bool} (h : Lz w B bn an lz F) {g : Nat} (hg : blockOf lz = some g) : g < w.heap.size := by
  rcases h with ⟨rfl, _⟩ | ⟨g', rfl, h2, h3, h4, h5⟩
  · cases hg
  · cases hg; exact h5.lt
theorem Lz.same {w w' : World} {B bn : Nat} {an : Option Addr} {lz : Value} {F : List Bool} (h : Lz w B bn an lz F) (hs : ∀ j, j < w.heap.size → j ≠ bn → w'.heap[j]? = w.heap[j]?) : Lz w' B bn an lz F := by
  rcases h with h | ⟨g, h1, h2, h3, h4, h5⟩
  · exact Or.inl h
  · refine Or.inr ⟨g, h1, h2, h3, h4, ?_⟩
    have hlt := h5.lt
    obtain ⟨C, c0, c1⟩ := h5
    exact ⟨C, (hs g hlt h3).trans c0, c1⟩
theorem Lz.turned {w w' : World} {B bn k : Nat} {an : Option Addr} {lz : Value} {F : List Bool} (h : Lz w B bn an lz F) (ht : Turned w w' k) (hne : blockOf lz ≠ some k) : Lz w' B bn an lz F := by
  rcases h with h | ⟨g, rfl, h2, h3, h4, h5⟩
  · exact Or.inl h
  · exact Or.inr ⟨g, rfl, h2, h3, h4, h5.turned ht (fun e => hne (by rw [← e]; rfl))⟩
theorem Row.same {w w' : World} {bn : Nat} {a : Option Addr} {l : List Int} (h : Row w a l) (hs : ∀ j, j < w.heap.size → j ≠ bn → w'.heap[j]? = w.heap[j]?) (hne : ∀ x off, a = some ⟨x, off, Option.none⟩ → x ≠ bn) : Row w' a l := by
  intro i hi
  obtain ⟨b', off, e, c⟩ := h i hi
  have hlt : b' < w.heap.size := World.block_lt_of_cell? _ _ c
  refine ⟨b', off, e, ?_⟩
  rw [World.cell?_of_block (w := w) (a := ⟨b', off + i, Option.none⟩) (hs b' hlt (hne b' off e))]
  exact c
theorem Maps.congr {w : World} {m n : Nat} {f g : Int → Option Value} (h : Maps w m n f) (he : ∀ s, f s = g s) : Maps w m n g := by
  obtain ⟨es, clock, hm, hn, hs⟩ := h
  exact ⟨es, clock, hm, hn, fun s => by rw [hs s, he s]⟩
theorem Maps.row {w w' : World} {m n : Nat} {f : Int → Option Value} {a : Option Addr} {l : List Int} (h : Maps w m n f) (ht : Turned w w' m) (hr : Row w a l) : Row w' a l := by
  obtain ⟨es, clock, hm, _⟩ := h
  intro i hi
  obtain ⟨g, off, e, c0⟩ := hr i hi
  have hg : g ≠ m := by rintro rfl; simp [World.cell?, hm] at c0
  exact ⟨g, off, e, (World.cell?_of_block (w := w) (ht.block g hg)).trans c0⟩

def S22 (W : World) (bn : Nat) (v : Int) (au : Option Addr) (cu : Nat) (u : List Int) (i : Nat) (x : Value) (w : World) : Prop :=
  match i with
  | 0 => x = .pointer (some ⟨bn, 0, none⟩)
  | 1 => x = .pointer (some ⟨bn, 0, none⟩)
  | 2 => x = .pointer (some ⟨bn, 17, none⟩)
  | 3 => x = .int .i64 v
  | 4 => x = .pointer (some ⟨bn, 0, none⟩)
  | 5 => x = .pointer (some ⟨bn, 0, none⟩)
  | 6 => x = .pointer (some ⟨bn, 15, none⟩)
  | 7 => x = .slice au u.length cu
  | 8 => ∃ g c, x = .slice (some ⟨g, 0, none⟩) u.length c ∧ W.heap.size ≤ g ∧ Row w (some ⟨g, 0, none⟩) u
  | _ => True

theorem stays22 (W : World) (bn : Nat) (v : Int) (au : Option Addr) (cu : Nat) (u : List Int) (i : Nat) (x : Value) (w w' : World) (h : S22 W bn v au cu u i x w) (hb : Below w.heap.size w w') : S22 W bn v au cu u i x w' := by
  unfold S22 at h ⊢
  split at h
  · exact h
  · exact h
  · exact h
  · exact h
  · exact h
  · exact h
  · exact h
  · exact h
  · obtain ⟨g, c, e, h1, h2⟩ := h; exact ⟨g, c, e, h1, h2.below hb⟩
  · trivial

def deps22 (i : Nat) : List Nat :=
  match i with
  | 1 => [0]
  | 2 => [1]
  | 5 => [4]
  | 6 => [5]
  | 7 => [6]
  | 8 => [7]
  | 9 => [2, 3, 8]
  | _ => []

/-- What makeEager leaves. -/
def Eager (B bn : Nat) (an : Option Addr) (cn : Nat) (l : List Int) (lz un ow : Value) (F : List Bool) (u : List Int) (v : Int) (n : Nat) (f : Int → Option Value) (w w' : World) : Prop :=
  Below B w w' ∧ KeptBut3 w w' bn lz ow ∧ ∃ (lz' ow' : Value) (F' : List Bool) (n' : Nat) (f' : Int → Option Value), Nd w' bn (.slice an l.length cn) lz' un ow' ∧ Lz w' B bn an lz' F' ∧ Ow w' B bn lz' ow' n' f' ∧ Row w' an l ∧ LzNext w lz lz' ∧
    ((¬ IsLazy l F v ∧ F' = F ∧ n' = n ∧ f' = f) ∨ (IsLazy l F v ∧ setF l F v false F' ∧ Debt w w' lz' u v n f n' f'))

set_option maxRecDepth 100000 in
set_option maxHeartbeats 1000000 in
theorem eager22 (B bn : Nat) (an au : Option Addr) (cn cu : Nat) (lz ow : Value) (l : List Int) (F : List Bool) (u : List Int) (v : Int) (n : Nat) (f : Int → Option Value) (w : World) (hB : B ≤ bn) (hO : Off an bn) (hN : Nd w bn (.slice an l.length cn) lz (.slice au u.length cu) ow) (hr : Row w an l) (ha : Asc l) (hl : l.length ≤ 1000000)
    (hF : F.length = l.length) (hL : Lz w B bn an lz F) (hu : Row w au u) (hul : u.length ≤ 1000000) (hu1 : Off au bn) (hu2 : ∀ g, blockOf lz = some g → Off au g) (hOw : Ow w B bn lz ow n f) (hf : IsLazy l F v → f v = none) :
    Calls Try.prog 22 #[.pointer (some ⟨bn, 0, none⟩), .int .i64 v] w fun e w' => Done e ∧ Eager B bn an cn l lz (.slice au u.length cu) ow F u v n f w w' := by
  go_enter Try.func22, Try.ntmps22
  go_wp2_with fail
  refine (isLazy27 B bn an cn lz _ ow l F v w hN hr ha hl hF hL).mono ?_
  rintro e w1 ⟨⟨q, rfl, hq⟩, hw⟩
  rw [hw]
  clear hw w1
  have HA : Hid (Asc l) := ha
  have HFF : Hid (F.length = l.length) := hF
  have HL : Hid (Lz w B bn an lz F) := hL
  have HN : Hid (Nd w bn (.slice an l.length cn) lz (.slice au u.length cu) ow) := hN
  have HOw : Hid (Ow w B bn lz ow n f) := hOw
  have Hf : Hid (IsLazy l F v → f v = none) := hf
  clear ha hF hL hN hOw hf
  cases q with
  | false =>
    have HQ : Hid (¬ IsLazy l F v) := fun h => by cases hq.2 h
    clear hq
    go_wp2_with fail
    first | (refine bodyPost_ret (results_none rfl _ _ _) rfl ?_) | ((try simp only [Exit.inBlock, Exit.then]); refine bodyPost_end (results_none rfl _ _ _) rfl ?_)
    exact ⟨rfl, Below.refl _ _, ⟨Nat.le_refl _, fun _ _ _ _ _ => rfl⟩, lz, ow, F, n, f, HN.out, HL.out, HOw.out, hr, Or.inl rfl, Or.inl ⟨HQ.out, rfl, rfl, rfl⟩⟩
  | true =>
    have HQ : Hid (IsLazy l F v) := hq.1 rfl
    clear hq
    go_wp2_with fail
    refine (setLazy21 B bn an cn lz _ ow l F v false w hB hO HN.out hr HA.out hl HFF.out HL.out).mono ?_
    rintro e w1 ⟨he, hb1, lz1, F1, hs1, hN1, hL1, hr1, hk1, hx1⟩
    obtain rfl : e = .returned (.tuple #[]) := he
    have hu' := hk1.row hu hu1 hu2
    have c15 := hN1.c15
    obtain ⟨hOw1, hlz1⟩ : Ow w1 B bn lz1 ow n f ∧ ∀ gm, ow = .map (some gm) → gm < w.heap.size := by
      rcases HOw.out with ⟨h1, h2, h3⟩ | ⟨gm, rfl, h1, h2, h3, h4⟩
      · exact ⟨Or.inl ⟨h1, h2, h3⟩, fun gm h => by rw [h1] at h; cases h⟩
      · have hlt := h4.lt
        refine ⟨Or.inr ⟨gm, rfl, h1, h2, ?_, h4.of_block (hk1.2 gm hlt h2 h3)⟩, fun g h => by cases h; exact hlt⟩
        rcases hx1 with hx1 | ⟨g, hx1, hg⟩
        · rw [hx1]; exact h3
        · rw [hx1]; intro h; cases h; omega
    have HE : Hid (Ow w1 B bn lz1 ow n f ∧ (∀ gm, ow = .map (some gm) → gm < w.heap.size) ∧ setF l F v false F1 ∧ KeptBut w w1 bn lz ∧ LzNext w lz lz1) := ⟨hOw1, hlz1, hs1, hk1, hx1⟩
    have HN1 : Hid (Nd w1 bn (.slice an l.length cn) lz1 (.slice au u.length cu) ow) := hN1
    have HL1 : Hid (Lz w1 B bn an lz1 F1) := hL1
    clear hOw1 hlz1 hs1 hk1 hx1 hN1 hL1
    by_cases hu0 : u = []
    · subst hu0
      simp only [List.length_nil] at c15
      go_wp2_with fail
      first | (refine bodyPost_ret (results_none rfl _ _ _) rfl ?_) | ((try simp only [Exit.inBlock, Exit.then]); refine bodyPost_end (results_none rfl _ _ _) rfl ?_)
      obtain ⟨k1, k2, k3, k4, k5⟩ := HE.out
      exact ⟨rfl, hb1, ⟨k4.1, fun k a1 a2 a3 _ => k4.2 k a1 a2 a3⟩, lz1, ow, F1, n, f, HN1.out, HL1.out, k1, hr1, k5, Or.inr ⟨HQ.out, k3, Or.inl ⟨rfl, rfl, rfl⟩⟩⟩
    · have hpos : 0 < u.length := by
        cases u with
        | nil => exact absurd rfl hu0
        | cons x u => simp
      have hz' : decide ((0 : Int) < (u.length : Int)) = true := decide_eq_true (by omega)
      obtain ⟨b, off, hau, _⟩ := hu' 0 hpos
      subst hau
      have HU : Hid (u ≠ []) := hu0
      clear hu0
      go_upto_region 3 with fail
      refine wp_region_last (W := w1) (z := 9) (ds := [17, 18, 19, 20, 21, 22, 23, 24, 25, 26]) (S := S22 w1 bn v (some ⟨b, off, none⟩) cu u) (deps := deps22) (Post := fun w' => Eager B bn an cn l lz (.slice (some ⟨b, off, none⟩) u.length cu) ow F u v n f w w')
        (by kernel_rfl) (slotsG_spec (by kernel_rfl)) (by kernel_rfl) (stays22 _ _ _ _ _ _) (by decide) ?_ ?_ ?_ ?_ rfl ?_
      · intro i hi hz
        have hi : i < 10 := hi
        obtain rfl | rfl | rfl | rfl | rfl | rfl | rfl | rfl | rfl : i = 0 ∨ i = 1 ∨ i = 2 ∨ i = 3 ∨ i = 4 ∨ i = 5 ∨ i = 6 ∨ i = 7 ∨ i = 8 := by omega
        · exact ⟨1, by decide, by decide, by decide⟩
        · exact ⟨2, by decide, by decide, by decide⟩
        · exact ⟨9, by decide, by decide, by decide⟩
        · exact ⟨9, by decide, by decide, by decide⟩
        · exact ⟨5, by decide, by decide, by decide⟩
        · exact ⟨6, by decide, by decide, by decide⟩
        · exact ⟨7, by decide, by decide, by decide⟩
        · exact ⟨8, by decide, by decide, by decide⟩
        · exact ⟨9, by decide, by decide, by decide⟩
      · intro i hi
        have hi : i < 10 := hi
        obtain rfl | rfl | rfl | rfl | rfl | rfl | rfl | rfl | rfl | rfl : i = 0 ∨ i = 1 ∨ i = 2 ∨ i = 3 ∨ i = 4 ∨ i = 5 ∨ i = 6 ∨ i = 7 ∨ i = 8 ∨ i = 9 := by omega
        all_goals decide
      · intro i o hz ho
        have hi := lt_of_get ho
        have hi : i < 10 := hi
        obtain rfl | rfl | rfl | rfl | rfl | rfl | rfl | rfl | rfl : i = 0 ∨ i = 1 ∨ i = 2 ∨ i = 3 ∨ i = 4 ∨ i = 5 ∨ i = 6 ∨ i = 7 ∨ i = 8 := by omega
        · simp only [List.getElem?_toArray, List.getElem?_cons_zero, Option.some.injEq] at ho; subst ho
          exact ⟨⟨_, rfl⟩, fun a w hk hb hs => wpOp_of rfl rfl (wp_move _ rfl ⟨_, rfl, (slot_eval a 0).trans (hk.slot (by decide)), Below.refl _ _⟩)⟩
        · simp only [List.getElem?_toArray, List.getElem?_cons_succ, List.getElem?_cons_zero, Option.some.injEq] at ho; subst ho
          exact ⟨⟨_, rfl⟩, fun a w hk hb hs => wpOp_of rfl rfl (wp_nilCheck _ rfl ((slot_eval a 17).trans (hs 0 (by decide))) ⟨_, rfl, rfl, Below.refl _ _⟩)⟩
        · simp only [List.getElem?_toArray, List.getElem?_cons_succ, List.getElem?_cons_zero, Option.some.injEq] at ho; subst ho
          exact ⟨⟨_, rfl⟩, fun a w hk hb hs => wpOp_of rfl rfl (wp_field63o _ rfl ((slot_eval a 18).trans (hs 1 (by decide))) ⟨_, rfl, rfl, Below.refl _ _⟩)⟩
        · simp only [List.getElem?_toArray, List.getElem?_cons_succ, List.getElem?_cons_zero, Option.some.injEq] at ho; subst ho
          exact ⟨⟨_, rfl⟩, fun a w hk hb hs => wpOp_of rfl rfl (wp_move _ rfl ⟨_, rfl, (slot_eval a 1).trans (hk.slot (by decide)), Below.refl _ _⟩)⟩
        · simp only [List.getElem?_toArray, List.getElem?_cons_succ, List.getElem?_cons_zero, Option.some.injEq] at ho; subst ho
          exact ⟨⟨_, rfl⟩, fun a w hk hb hs => wpOp_of rfl rfl (wp_move _ rfl ⟨_, rfl, (slot_eval a 0).trans (hk.slot (by decide)), Below.refl _ _⟩)⟩
        · simp only [List.getElem?_toArray, List.getElem?_cons_succ, List.getElem?_cons_zero, Option.some.injEq] at ho; subst ho
          exact ⟨⟨_, rfl⟩, fun a w hk hb hs => wpOp_of rfl rfl (wp_nilCheck _ rfl ((slot_eval a 21).trans (hs 4 (by decide))) ⟨_, rfl, rfl, Below.refl _ _⟩)⟩
        · simp only [List.getElem?_toArray, List.getElem?_cons_succ, List.getElem?_cons_zero, Option.some.injEq] at ho; subst ho
          exact ⟨⟨_, rfl⟩, fun a w hk hb hs => wpOp_of rfl rfl (wp_field63u _ rfl ((slot_eval a 22).trans (hs 5 (by decide))) ⟨_, rfl, rfl, Below.refl _ _⟩)⟩
        · simp only [List.getElem?_toArray, List.getElem?_cons_succ, List.getElem?_cons_zero, Option.some.injEq] at ho; subst ho
          exact ⟨⟨_, rfl⟩, fun a w hk hb hs => wpOp_of rfl rfl (wp_load22 _ rfl ((slot_eval a 23).trans (hs 6 (by decide))) (HN1.out.below hb).c15 ⟨_, rfl, rfl, Below.refl _ _⟩)⟩
        · simp only [List.getElem?_toArray, List.getElem?_cons_succ, List.getElem?_cons_zero, Option.some.injEq] at ho; subst ho
          refine ⟨⟨_, rfl⟩, fun a w' hk hb hs => wpOp_of rfl rfl (wp_callR rfl Try.func29 (by kernel_rfl) (by kernel_rfl) (vs := #[.slice (some ⟨b, off, none⟩) u.length cu]) ?_ (clone29 b off cu u w' hul (hu'.below hb)) ?_ ?_)⟩
          · have := (slot_eval a 24).trans (hs 7 (by decide))
            simp [this]
          · rintro e w'' ⟨⟨g, c, rfl, _⟩, _⟩; exact ⟨_, rfl⟩
          · rintro x w'' ⟨⟨g, c, he, hg, hfl, _⟩, hb'⟩
            cases he
            exact ⟨_, rfl, ⟨g, c, rfl, Nat.le_trans hb.size hg, hfl.row⟩, hb'⟩
      · intro o ho a w' hk hb hS
        simp only [List.getElem?_toArray, List.getElem?_cons_succ, List.getElem?_cons_zero, Option.some.injEq] at ho; subst ho
        obtain ⟨g, c, e8, hg, hrow⟩ := hS 8 (by decide) (by decide)
        have hargs : (#[.tmp 19, .tmp 20, .tmp 25] : Array Operand).map a.eval = #[.pointer (some ⟨bn, 17, none⟩), .int .i64 v, .slice (some ⟨g, 0, none⟩) u.length c] := by
          have e2 := (slot_eval a 19).trans (hS 2 (by decide) (by decide))
          have e3 := (slot_eval a 20).trans (hS 3 (by decide) (by decide))
          have e8' := (slot_eval a 25).trans e8
          simp [e2, e3, e8']
        have hN2 := HN1.out.below hb
        have hL2 := HL1.out.below hb
        have hr2 := hr1.below hb
        obtain ⟨k1, k2, k3, k4, k5⟩ := HE.out
        have hlt := HN.out.lt
        have s1 := hb1.size
        have s2 := hb.size
        have hOff : ∀ b', Off an b' → ∀ x off', an = some ⟨x, off', none⟩ → x ≠ b' := fun b' h x off' he => h _ he
        rcases k1 with ⟨rfl, rfl, hfn⟩ | ⟨gm, rfl, m1, m2, m3, m4⟩
        · refine wpOp_of rfl rfl (wp_callR rfl Try.func28 (by kernel_rfl) (by kernel_rfl) hargs (put28n bn _ lz1 _ v _ _ c w' hN2) ?_ ?_)
          · rintro e w3 ⟨he, _⟩; exact ⟨_, he⟩
          · rintro x w3 ⟨_, gm, hgm, hN3, hM3, hB3, hS3⟩
            refine ⟨⟨x, rfl⟩, (hb1.trans (hb.mono (by omega))).trans (hB3.mono hB), ⟨by have := hB3.size; omega, fun k a1 a2 a3 a4 => ((hS3 k (by omega) a2).trans (hb.block k (by omega))).trans (k4.2 k a1 a2 a3)⟩, lz1, .map (some gm), F1, 0 + 1, _, hN3,
              hL2.same (fun j j1 j2 => hS3 j j1 j2), Or.inr ⟨gm, rfl, by omega, by omega, fun h => ?_, hM3.congr (fun s => by rw [hfn s])⟩, hr2.same (fun j j1 j2 => hS3 j j1 j2) (hOff bn hO), k5, Or.inr ⟨HQ.out, k3, Or.inr ⟨HU.out, rfl, g, c, rfl, by omega, (fun h => by have := HL1.out.lt h; omega), hrow.same (fun j j1 j2 => hS3 j j1 j2) (fun x off' he => by cases he; omega)⟩⟩⟩
            have := hL2.lt h
            omega
        · have hgw := k2 gm rfl
          refine wpOp_of rfl rfl (wp_callR rfl Try.func28 (by kernel_rfl) (by kernel_rfl) hargs (put28s bn gm n _ lz1 _ f v _ _ c w' hN2 (m4.below hb) (Hf.out HQ.out)) ?_ ?_)
          · rintro e w3 ⟨he, _⟩; exact ⟨_, he⟩
          · rintro x w3 ⟨_, hM3, hT3⟩
            refine ⟨⟨x, rfl⟩, (hb1.trans (hb.mono (by omega))).trans (hT3.below m1), ⟨by rw [hT3.size]; omega, fun k a1 a2 a3 a4 => ((hT3.block k (fun h => a4 (by rw [h]))).trans (hb.block k (by omega))).trans (k4.2 k a1 a2 a3)⟩, lz1, .map (some gm), F1, n + 1, _, hN2.turned hT3 (Ne.symm m2),
              hL2.turned hT3 m3, Or.inr ⟨gm, rfl, m1, m2, m3, hM3⟩, ?_, k5, Or.inr ⟨HQ.out, k3, Or.inr ⟨HU.out, rfl, g, c, rfl, by omega, (fun h => by have := HL1.out.lt h; omega), hT3.row hrow (fun x he => by cases he; show g ≠ gm; omega)⟩⟩⟩
            exact (m4.below hb).row hT3 hr2
      · intro a' w' hk hP
        have HP : Hid (Eager B bn an cn l lz (.slice (some ⟨b, off, none⟩) u.length cu) ow F u v n f w w') := hP
        rw [hk.eq, List.foldl_cons, List.foldl_cons, List.foldl_cons, List.foldl_cons, List.foldl_cons, List.foldl_cons, List.foldl_cons, List.foldl_cons, List.foldl_cons, List.foldl_cons, List.foldl_nil]
        clear hP
        simp only [List.setIfInBounds_toArray, List.set_cons_succ, List.set_cons_zero]
        go_wp2_with fail
        first | (refine bodyPost_ret (results_none rfl _ _ _) rfl ?_) | ((try simp only [Exit.inBlock, Exit.then]); refine bodyPost_end (results_none rfl _ _ _) rfl ?_)
        exact ⟨rfl, HP.out⟩

end Go.Proofs.Qxb6612866a
