/- slotswap.NewNode (25), plumtree.NewNode (20), ZZnewNode (7). -/
import Derived.Test.Qxb6612866aClone
import Derived.Deep.CutRange
namespace Go.Proofs.Qxb6612866a
open Go.RowKit

/-- The call hands back a pointer to new memory. -/
def NewPtr (e : Ending) : Prop := ∃ b : Nat, e = .returned (.pointer (some ⟨b, 0, none⟩))

set_option maxRecDepth 100000 in
set_option maxHeartbeats 1000000 in
theorem slot25 (x y z : Int) (w : World) :
    Calls Try.prog 25 #[.int .i64 x, .int .i64 y, .int .i64 z, .pointer none] w fun e w' => NewPtr e ∧ Below w.heap.size w w' := by
  go_enter Try.func25, Try.ntmps25
  go_wp2_with fail
  go_ret
  exact ⟨⟨_, rfl⟩, ((Below.refl _ _).alloc (Nat.le_refl _) _).alloc (by simp) _⟩

/-- The configuration of zeros. -/
def cfg0 : Array Value := #[.int .i64 0, .int .i64 0, .int .i64 0, .int .i64 0, .bool false, .bool false, .int .i64 0, .nilFunc]

section
variable {o : Oper} {a : Act} {w : World} {K : Act → World → Prop} {Q : Exit → Act → World → Prop}

theorem wp_move (x : Operand) (hop : o.op = .move x) (h : K (a.put o.dst (a.eval x)) w) : o.wp Try.prog a w K Q := by
  unfold Oper.wp execOp
  simp only [hop]
  exact h
theorem wp_assign (x : Operand) (hop : o.op = .assign x) (h : K (a.put o.dst (a.eval x)) w) : o.wp Try.prog a w K Q := by
  unfold Oper.wp execOp
  simp only [hop]
  exact h
theorem run_call_go {f : FuncId} {fn : Func} {args : Array Operand} {ats : Array TypeId} (hop : o.op = .call { callee := .value (.func f), args, argTypes := ats })
    (hf : Try.prog.funcs[f]? = some fn) (hname : (fn.name == "runtime.NumGoroutine") = false) (hb : fn.body.isNone = false) : (execOp a.eval o).run Try.prog w = .ok (.enter f (args.map a.eval)) w := by
  have h1 : ¬ fn.name = "runtime.NumGoroutine" := by simpa using hname
  have h2 : ¬ fn.body = none := by cases hx : fn.body <;> simp_all
  unfold execOp
  simp [hop, resolve, Deferred.ofValue, invoke, callFunc, hf, h1, h2, Act.eval]

theorem wp_call24 (x : Operand) (hop : o.op = .call { callee := .value (.func 24), args := #[x], argTypes := #[28] }) {g c : Nat} {l : List Int} (hx : a.eval x = .slice (some ⟨g, 0, none⟩) l.length c) (hl : l.length ≤ 1000000) (hr : Row w (some ⟨g, 0, none⟩) l)
    (h : ∀ g' c' w', w.heap.size ≤ g' → Filled w' 27 g' c' l.length l → Below w.heap.size w w' → K (a.put o.dst (.slice (some ⟨g', 0, none⟩) l.length c')) w') : o.wp Try.prog a w K Q := by
  unfold Oper.wp
  have he : (execOp a.eval o).run Try.prog w = .ok (.enter 24 #[.slice (some ⟨g, 0, none⟩) l.length c]) w := by
    rw [run_call_go hop Try.func24 (by kernel_rfl) (by kernel_rfl)]
    simp [hx]
  rw [he]
  refine (clone24 g 0 c l w hl hr).mono ?_
  rintro e w' ⟨⟨g', c', rfl, h1, h2, _⟩, hb⟩
  exact h g' c' w' h1 h2 hb

theorem wp_call25 (x y z u : Operand) (hop : o.op = .call { callee := .value (.func 25), args := #[x, y, z, u], argTypes := #[27, 3, 45, 65] }) {p q r : Int} (hx : a.eval x = .int .i64 p) (hy : a.eval y = .int .i64 q) (hz : a.eval z = .int .i64 r) (hu : a.eval u = .pointer none)
    (h : ∀ b w', Below w.heap.size w w' → K (a.put o.dst (.pointer (some ⟨b, 0, none⟩))) w') : o.wp Try.prog a w K Q := by
  unfold Oper.wp
  have he : (execOp a.eval o).run Try.prog w = .ok (.enter 25 #[.int .i64 p, .int .i64 q, .int .i64 r, .pointer none]) w := by
    rw [run_call_go hop Try.func25 (by kernel_rfl) (by kernel_rfl)]
    simp [hx, hy, hz, hu]
  rw [he]
  refine (slot25 p q r w).mono ?_
  rintro e w' ⟨⟨b, rfl⟩, hb⟩
  exact h b w' hb

/-- Block b holds the configuration of zeros. -/
def Cfg (w : World) (b : Nat) : Prop := w.heap[b]? = some (.cells cfg0 48 (0, 0))
theorem Cfg.below {w w' : World} {b : Nat} (h : Cfg w b) (hb : Below w.heap.size w w') : Cfg w' b := by
  refine (hb.block b ?_).trans h
  rcases Nat.lt_or_ge b w.heap.size with h' | h'
  · exact h'
  · have := h; unfold Cfg at this; rw [Array.getElem?_eq_none h'] at this; cases this

theorem wp_load48 (x : Operand) (hop : o.op = .load 48 x) {b : Nat} (hx : a.eval x = .pointer (some ⟨b, 0, none⟩)) (hC : Cfg w b) (h : K (a.put o.dst (.agg cfg0)) w) : o.wp Try.prog a w K Q := by
  have := run_loadVar_row (P := Try.prog) w b 48 48 cfg0 (0, 0) _ hC Try.underlying48 rfl (by kernel_rfl)
  unfold Oper.wp execOp
  simp only [hop, hx, Instr.loadAt, Instr.sureAddr, Sem.run_bind, Sem.run_pure, Result.andThen_ok, this]
  exact h

theorem run_field48 (w : World) (b : Nat) : (Instr.fieldAt 48 (.pointer (some ⟨b, 0, none⟩)) 6).run Try.prog w = .ok (.pointer (some ⟨b, 6, none⟩)) w := by kernel_rfl
theorem wp_field48 (x : Operand) (hop : o.op = .fieldAddr 48 x 6) {b : Nat} (hx : a.eval x = .pointer (some ⟨b, 0, none⟩)) (h : K (a.put o.dst (.pointer (some ⟨b, 6, none⟩))) w) : o.wp Try.prog a w K Q := by
  unfold Oper.wp execOp
  simp only [hop, hx, Sem.run_bind, run_field48, Result.andThen_ok, Sem.run_pure]
  exact h
theorem isAgg45 (w : World) : (isAgg 45).run Try.prog w = .ok false w := by kernel_rfl
theorem wp_load45 (x : Operand) (hop : o.op = .load 45 x) {b i : Nat} {v : Value} (hx : a.eval x = .pointer (some ⟨b, i, none⟩)) (hc : w.cell? ⟨b, i, none⟩ = some v) (h : K (a.put o.dst v) w) : o.wp Try.prog a w K Q := by
  unfold Oper.wp execOp
  simp only [hop, hx, Instr.loadAt, Instr.sureAddr, loadVar, Sem.run_bind, Sem.run_pure, Result.andThen_ok, isAgg45, Bool.false_eq_true, if_false, run_load, hc]
  exact h

/-- A new node's cells. -/
def node0 (x : Int) (nb : Value) (sw : Value) : Array Value :=
  #[.int .i64 x, .int .i64 0, .int .i64 0, .int .i64 0, .int .i64 0, .bool false, .bool false, .int .i64 0, .nilFunc, nb, .slice none 0 0, .pointer none, .int .i64 0, .int .i64 0, .map none, .slice none 0 0, .int .i64 0, .map none, .map none, .map none,
    .slice none 0 0, .map none, .map none, .bool false, .slice none 0 0, .slice none 0 0, .bool false, sw, .int .i64 0, .int .i64 0]

theorem run_build63 (x : Int) (ad : Option Addr) (n c b : Nat) (w : World) :
    (Instr.build 63 #[(0, .int .i64 x), (1, .agg cfg0), (2, .slice ad n c), (20, .pointer (some ⟨b, 0, none⟩))]).run Try.prog w = .ok (.agg (node0 x (.slice ad n c) (.pointer (some ⟨b, 0, none⟩)))) w := by kernel_rfl

theorem wp_build63 (p q r s : Operand) (hop : o.op = .build 63 #[(0, p), (1, q), (2, r), (20, s)]) {x : Int} {ad : Option Addr} {n c b : Nat} (hp : a.eval p = .int .i64 x) (hq : a.eval q = .agg cfg0) (hr : a.eval r = .slice ad n c) (hs : a.eval s = .pointer (some ⟨b, 0, none⟩))
    (h : K (a.put o.dst (.agg (node0 x (.slice ad n c) (.pointer (some ⟨b, 0, none⟩))))) w) : o.wp Try.prog a w K Q := by
  unfold Oper.wp execOp
  have : (#[((0 : Nat), p), (1, q), (2, r), (20, s)] : Array (Nat × Operand)).map (fun (i, x) => (i, a.eval x)) = #[(0, .int .i64 x), (1, .agg cfg0), (2, .slice ad n c), (20, .pointer (some ⟨b, 0, none⟩))] := by simp only [List.map_toArray, List.map_cons, List.map_nil, hp, hq, hr, hs]
  simp only [hop, this, Sem.run_bind, run_build63, Result.andThen_ok, Sem.run_pure]
  exact h

theorem wp_box63 (x : Operand) (hop : o.op = .box 63 x) {E : Array Value} (hx : a.eval x = .agg E) (h : K (a.put o.dst (.pointer (some ⟨w.heap.size, 0, none⟩))) (w.alloc (.cells E 63))) : o.wp Try.prog a w K Q := by
  have hr : (Instr.box 63 (.agg E)).run Try.prog w = .ok (.pointer (some ⟨w.heap.size, 0, none⟩)) (w.alloc (.cells E 63)) := rfl
  unfold Oper.wp execOp
  simp only [hop, hx, Sem.run_bind, hr]
  exact h
end

/-- A new node at bn: its neighbours l lie in block g. -/
def NewNd (W : World) (l : List Int) (bn : Nat) (w : World) : Prop :=
  ∃ g c, W.heap.size ≤ bn ∧ W.heap.size ≤ g ∧ g ≠ bn ∧ Row w (some ⟨g, 0, none⟩) l ∧ Nd w bn (.slice (some ⟨g, 0, none⟩) l.length c) (.slice none 0 0) (.slice none 0 0) (.map none)
theorem NewNd.below {W w w' : World} {l : List Int} {bn : Nat} (h : NewNd W l bn w) (hb : Below w.heap.size w w') : NewNd W l bn w' := by
  obtain ⟨g, c, h1, h2, h3, h4, h5⟩ := h
  exact ⟨g, c, h1, h2, h3, h4.below hb, h5.below hb⟩

theorem Filled.below {w w' : World} {t : TypeId} {g n k : Nat} {l : List Int} (h : Filled w t g n k l) (hb : Below w.heap.size w w') : Filled w' t g n k l := by
  obtain ⟨cur, hg, h1⟩ := h
  refine ⟨cur, (hb.block g ?_).trans hg, h1⟩
  rcases Nat.lt_or_ge g w.heap.size with h' | h'
  · exact h'
  · rw [Array.getElem?_eq_none h'] at hg; cases hg
theorem Filled.lt {w : World} {t : TypeId} {g n k : Nat} {l : List Int} (h : Filled w t g n k l) : g < w.heap.size := by
  obtain ⟨cur, hg, h1⟩ := h
  rcases Nat.lt_or_ge g w.heap.size with h' | h'
  · exact h'
  · rw [Array.getElem?_eq_none h'] at hg; cases hg

def S20 (W : World) (x : Int) (g c bc : Nat) (l : List Int) (i : Nat) (v : Value) (w : World) : Prop :=
  match i with
  | 0 => v = .int .i64 x
  | 1 => v = .agg cfg0
  | 2 => v = .slice (some ⟨g, 0, none⟩) l.length c
  | 3 => ∃ g' c', v = .slice (some ⟨g', 0, none⟩) l.length c' ∧ W.heap.size ≤ g' ∧ Filled w 27 g' c' l.length l
  | 4 => v = .int .i64 x
  | 5 => v = .int .i64 x
  | 6 => v = .pointer (some ⟨bc, 6, none⟩)
  | 7 => v = .int .i64 0
  | 8 => v = .pointer none
  | 9 => ∃ b, v = .pointer (some ⟨b, 0, none⟩)
  | 10 => ∃ g' c' b, v = .agg (node0 x (.slice (some ⟨g', 0, none⟩) l.length c') (.pointer (some ⟨b, 0, none⟩))) ∧ W.heap.size ≤ g' ∧ Filled w 27 g' c' l.length l
  | 11 => ∃ bn, v = .pointer (some ⟨bn, 0, none⟩) ∧ NewNd W l bn w
  | 12 => ∃ bn, v = .pointer (some ⟨bn, 0, none⟩) ∧ NewNd W l bn w
  | _ => True

theorem stays20 (W : World) (x : Int) (g c bc : Nat) (l : List Int) (i : Nat) (v : Value) (w w' : World) (h : S20 W x g c bc l i v w) (hb : Below w.heap.size w w') : S20 W x g c bc l i v w' := by
  unfold S20 at h ⊢
  split at h
  · exact h
  · exact h
  · exact h
  · obtain ⟨g', c', e, h1, h2⟩ := h; exact ⟨g', c', e, h1, h2.below hb⟩
  · exact h
  · exact h
  · exact h
  · exact h
  · exact h
  · exact h
  · obtain ⟨g', c', b, e, h1, h2⟩ := h; exact ⟨g', c', b, e, h1, h2.below hb⟩
  · obtain ⟨b, e, h1⟩ := h; exact ⟨b, e, h1.below hb⟩
  · obtain ⟨b, e, h1⟩ := h; exact ⟨b, e, h1.below hb⟩
  · trivial

def deps20 (i : Nat) : List Nat :=
  match i with
  | 3 => [2]
  | 7 => [6]
  | 9 => [4, 5, 7, 8]
  | 10 => [0, 1, 3, 9]
  | 11 => [10]
  | 12 => [11]
  | _ => []

set_option maxRecDepth 100000 in
set_option maxHeartbeats 1000000 in
theorem new20 (x : Int) (g c : Nat) (l : List Int) (w : World) (hl : l.length ≤ 1000000) (hr : Row w (some ⟨g, 0, none⟩) l) :
    Calls Try.prog 20 #[.int .i64 x, .slice (some ⟨g, 0, none⟩) l.length c, .agg cfg0] w fun e w' => (∃ bn, e = .returned (.pointer (some ⟨bn, 0, none⟩)) ∧ NewNd w l bn w') ∧ Below w.heap.size w w' := by
  have A : Hid (Row w (some ⟨g, 0, none⟩) l) := hr
  have hq46 : ∀ w, (binOp .neq 46 .nilFunc .nilFunc).run Try.prog w = .ok (.bool false) w := fun w => by kernel_rfl
  clear hr
  unfold cfg0
  go_enter Try.func20, Try.ntmps20
  go_upto_region 4 with fail
  generalize hw1 : w.alloc (.cells #[.int .i64 0, .int .i64 0, .int .i64 0, .int .i64 0, .bool false, .bool false, .int .i64 0, .nilFunc] 48) = w1
  have hb1 : Below w.heap.size w w1 := by rw [← hw1]; exact (Below.refl _ _).alloc (Nat.le_refl _) _
  have hC1 : Cfg w1 w.heap.size := by rw [← hw1]; exact heap_alloc_new _ _
  have hR1 := A.out.below hb1
  clear hw1
  refine wp_region_vals (W := w1) (ds := [20, 21, 22, 23, 24, 25, 26, 27, 28, 29, 30, 31, 6]) (S := S20 w x g c w.heap.size l) (deps := deps20)
    (by kernel_rfl) (slotsG_spec (by kernel_rfl)) (by kernel_rfl) (stays20 _ _ _ _ _ _) ?_ rfl ?_
  · intro i o ho
    have hi := lt_of_get ho
    have hi : i < 13 := hi
    obtain rfl | rfl | rfl | rfl | rfl | rfl | rfl | rfl | rfl | rfl | rfl | rfl | rfl : i = 0 ∨ i = 1 ∨ i = 2 ∨ i = 3 ∨ i = 4 ∨ i = 5 ∨ i = 6 ∨ i = 7 ∨ i = 8 ∨ i = 9 ∨ i = 10 ∨ i = 11 ∨ i = 12 := by omega
    · simp only [List.getElem?_toArray, List.getElem?_cons_zero, Option.some.injEq] at ho; subst ho
      exact ⟨⟨_, rfl⟩, fun a w hk hb hs => wpOp_of rfl rfl (wp_move _ rfl ⟨_, rfl, (slot_eval a 0).trans (hk.slot (by decide)), Below.refl _ _⟩)⟩
    · simp only [List.getElem?_toArray, List.getElem?_cons_succ, List.getElem?_cons_zero, Option.some.injEq] at ho; subst ho
      exact ⟨⟨_, rfl⟩, fun a w hk hb hs => wpOp_of rfl rfl (wp_load48 _ rfl ((slot_eval a 5).trans (hk.slot (by decide))) (hC1.below hb) ⟨_, rfl, rfl, Below.refl _ _⟩)⟩
    · simp only [List.getElem?_toArray, List.getElem?_cons_succ, List.getElem?_cons_zero, Option.some.injEq] at ho; subst ho
      exact ⟨⟨_, rfl⟩, fun a w hk hb hs => wpOp_of rfl rfl (wp_move _ rfl ⟨_, rfl, (slot_eval a 1).trans (hk.slot (by decide)), Below.refl _ _⟩)⟩
    · simp only [List.getElem?_toArray, List.getElem?_cons_succ, List.getElem?_cons_zero, Option.some.injEq] at ho; subst ho
      exact ⟨⟨_, rfl⟩, fun a w' hk hb hs => wpOp_of rfl rfl (wp_call24 _ rfl ((slot_eval a 22).trans (hs 2 (by decide))) hl (hR1.below hb) fun g' c' w'' k1 k2 hb' => ⟨_, rfl, ⟨g', c', rfl, Nat.le_trans (Nat.le_trans hb1.size hb.size) k1, k2⟩, hb'⟩)⟩
    · simp only [List.getElem?_toArray, List.getElem?_cons_succ, List.getElem?_cons_zero, Option.some.injEq] at ho; subst ho
      exact ⟨⟨_, rfl⟩, fun a w hk hb hs => wpOp_of rfl rfl (wp_move _ rfl ⟨_, rfl, (slot_eval a 0).trans (hk.slot (by decide)), Below.refl _ _⟩)⟩
    · simp only [List.getElem?_toArray, List.getElem?_cons_succ, List.getElem?_cons_zero, Option.some.injEq] at ho; subst ho
      exact ⟨⟨_, rfl⟩, fun a w hk hb hs => wpOp_of rfl rfl (wp_move _ rfl ⟨_, rfl, (slot_eval a 7).trans (hk.slot (by decide)), Below.refl _ _⟩)⟩
    · simp only [List.getElem?_toArray, List.getElem?_cons_succ, List.getElem?_cons_zero, Option.some.injEq] at ho; subst ho
      exact ⟨⟨_, rfl⟩, fun a w hk hb hs => wpOp_of rfl rfl (wp_field48 _ rfl ((slot_eval a 5).trans (hk.slot (by decide))) ⟨_, rfl, rfl, Below.refl _ _⟩)⟩
    · simp only [List.getElem?_toArray, List.getElem?_cons_succ, List.getElem?_cons_zero, Option.some.injEq] at ho; subst ho
      exact ⟨⟨_, rfl⟩, fun a w' hk hb hs => wpOp_of rfl rfl (wp_load45 _ rfl ((slot_eval a 26).trans (hs 6 (by decide))) (v := .int .i64 0) (by have := hC1.below hb; unfold Cfg at this; simp [World.cell?, this, cfg0]) ⟨_, rfl, rfl, Below.refl _ _⟩)⟩
    · simp only [List.getElem?_toArray, List.getElem?_cons_succ, List.getElem?_cons_zero, Option.some.injEq] at ho; subst ho
      exact ⟨⟨_, rfl⟩, fun a w hk hb hs => wpOp_of rfl rfl (wp_move _ rfl ⟨_, rfl, (slot_eval a 8).trans (hk.slot (by decide)), Below.refl _ _⟩)⟩
    · simp only [List.getElem?_toArray, List.getElem?_cons_succ, List.getElem?_cons_zero, Option.some.injEq] at ho; subst ho
      exact ⟨⟨_, rfl⟩, fun a w' hk hb hs => wpOp_of rfl rfl (wp_call25 _ _ _ _ rfl ((slot_eval a 24).trans (hs 4 (by decide))) ((slot_eval a 25).trans (hs 5 (by decide))) ((slot_eval a 27).trans (hs 7 (by decide))) ((slot_eval a 28).trans (hs 8 (by decide))) fun b w'' hb' => ⟨_, rfl, ⟨b, rfl⟩, hb'⟩)⟩
    · simp only [List.getElem?_toArray, List.getElem?_cons_succ, List.getElem?_cons_zero, Option.some.injEq] at ho; subst ho
      refine ⟨⟨_, rfl⟩, fun a w' hk hb hs => ?_⟩
      obtain ⟨g', c', e3, k1, k2⟩ := hs 3 (by decide)
      obtain ⟨b, e9⟩ := hs 9 (by decide)
      exact wpOp_of rfl rfl (wp_build63 _ _ _ _ rfl ((slot_eval a 20).trans (hs 0 (by decide))) ((slot_eval a 21).trans (hs 1 (by decide))) ((slot_eval a 23).trans e3) ((slot_eval a 29).trans e9) ⟨_, rfl, ⟨g', c', b, rfl, k1, k2⟩, Below.refl _ _⟩)
    · simp only [List.getElem?_toArray, List.getElem?_cons_succ, List.getElem?_cons_zero, Option.some.injEq] at ho; subst ho
      refine ⟨⟨_, rfl⟩, fun a w' hk hb hs => ?_⟩
      obtain ⟨g', c', b, e, k1, k2⟩ := hs 10 (by decide)
      have hba : Below w'.heap.size w' (w'.alloc (.cells (node0 x (.slice (some ⟨g', 0, none⟩) l.length c') (.pointer (some ⟨b, 0, none⟩))) 63)) := (Below.refl _ _).alloc (Nat.le_refl _) _
      refine wpOp_of rfl rfl (wp_box63 _ rfl ((slot_eval a 30).trans e) ⟨_, rfl, ⟨w'.heap.size, rfl, g', c', Nat.le_trans hb1.size hb.size, k1, Nat.ne_of_lt k2.lt, (k2.below hba).row, _, heap_alloc_new _ _, rfl, rfl, rfl, rfl, rfl⟩, hba⟩)
    · simp only [List.getElem?_toArray, List.getElem?_cons_succ, List.getElem?_cons_zero, Option.some.injEq] at ho; subst ho
      refine ⟨⟨_, rfl⟩, fun a w' hk hb hs => ?_⟩
      obtain ⟨bn, e, h1⟩ := hs 11 (by decide)
      exact wpOp_of rfl rfl (wp_assign _ rfl ⟨_, rfl, ⟨bn, (slot_eval a 31).trans e, h1⟩, Below.refl _ _⟩)
  · intro a' w' hk hb hS
    obtain ⟨bn, e, h1⟩ := hS 12 (by decide)
    have e6 : slot a' 6 = .pointer (some ⟨bn, 0, none⟩) := e
    have H1 : Hid (NewNd w l bn w') := h1
    have hb0 := hb1.trans (hb.mono hb1.size)
    rw [hk.eq, List.foldl_cons, List.foldl_cons, List.foldl_cons, List.foldl_cons, List.foldl_cons, List.foldl_cons, List.foldl_cons, List.foldl_cons, List.foldl_cons, List.foldl_cons, List.foldl_cons, List.foldl_cons, List.foldl_cons, List.foldl_nil, e6]
    clear hS h1 e
    simp only [List.setIfInBounds_toArray, List.set_cons_succ, List.set_cons_zero]
    go_wp2_with fail
    go_ret
    exact ⟨⟨bn, rfl, H1.out⟩, hb0⟩

set_option maxHeartbeats 400000 in
theorem znew7 (x : Int) (g c : Nat) (l : List Int) (w : World) (hl : l.length ≤ 1000000) (hr : Row w (some ⟨g, 0, none⟩) l) :
    Calls Try.prog 7 #[.int .i64 x, .slice (some ⟨g, 0, none⟩) l.length c, .int .i64 0, .int .i64 0, .int .i64 0, .int .i64 0, .bool false, .bool false, .int .i64 0] w fun e w' => (∃ bn, e = .returned (.pointer (some ⟨bn, 0, none⟩)) ∧ NewNd w l bn w') ∧ Below w.heap.size w w' := by
  go_enter Try.func7, Try.ntmps7
  go_wp2_with fail
  refine (new20 x g c l w hl hr).mono ?_
  rintro e w1 ⟨⟨bn, rfl, h1⟩, hb⟩
  have H1 : Hid (NewNd w l bn w1) := h1
  clear h1
  go_wp2_with fail
  go_ret
  exact ⟨⟨bn, rfl, H1.out⟩, hb⟩

end Go.Proofs.Qxb6612866a
