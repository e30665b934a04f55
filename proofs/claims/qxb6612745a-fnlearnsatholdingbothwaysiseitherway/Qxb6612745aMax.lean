/- vtp.Max (18). -/
import Derived.Test.Qxb6612745aTree
import Derived.Deep.RegionLaw
import Derived.Deep.RegionHeld3
import Derived.RegionTactic
namespace Go.Proofs.Qxb6612745a
open Go.RowKit

theorem Filled.empty (w : World) (n : Nat) : Filled (w.alloc (.cells (zeros n) 46)) w.heap.size n 0 [] :=
  ⟨zeros n, heap_alloc_new _ _, size_zeros n, fun i hi => absurd hi (by omega)⟩

theorem at_snoc_lt {m : List (ByteArray × Int)} {e : ByteArray × Int} {i : Nat} (h : i < m.length) : at_ (m ++ [e]) i = at_ m i := by
  simp [at_, List.getElem?_append_left h]
theorem at_snoc (m : List (ByteArray × Int)) (e : ByteArray × Int) : at_ (m ++ [e]) m.length = e := by
  simp [at_]

theorem Filled.snoc {w : World} {g T k : Nat} {m : List (ByteArray × Int)} (h : Filled w g T k m) (hk : k = m.length) (hT : k + 1 ≤ T) (e : ByteArray × Int) :
    Filled (w.setCells g (0 + k * 2) [.string e.1, .int .u64 e.2]) g T (k + 1) (m ++ [e]) := by
  have h1 : Filled w g T k (m ++ [e]) := by
    obtain ⟨cur, hb, hs, hc⟩ := h
    refine ⟨cur, hb, hs, fun i hi => ?_⟩
    rw [at_snoc_lt (by omega)]
    exact hc i hi
  have h2 := h1.step (by omega)
  subst hk
  rw [at_snoc] at h2
  simpa [World.setCells] using h2

theorem setCells_turned (w : World) (g o : Nat) (x y : Value) : Turned w (w.setCells g o [x, y]) g := by
  refine ⟨rfl, rfl, rfl, by simp [World.setCells, World.setCell], fun k hk => ?_⟩
  simp only [World.setCells]
  rw [Below.heap_setCell _ _ _ _ hk, Below.heap_setCell _ _ _ _ hk]

section Append
variable {ops : Array Oper} {rest : List Oper} {o : Oper} {a : Act} {w : World} {Q : Exit → Act → World → Prop}

theorem spare46 {g T k : Nat} {m : List (ByteArray × Int)} (hf : Filled w g T k m) (hT : k + 1 ≤ T) (j : Nat) (hj : j < 2) :
    (w.cell? ⟨g, 0 + k * 2 + j, none⟩).isSome = true ∧ w.frozen? ⟨g, 0 + k * 2 + j, none⟩ = false := by
  obtain ⟨⟨v0, h0⟩, ⟨v1, h1⟩, hz⟩ := hf.cells k (by omega)
  refine ⟨?_, hz _⟩
  rw [Nat.zero_add]
  match j, hj with
  | 0, _ => rw [Nat.add_zero, h0]; rfl
  | 1, _ => rw [h1]; rfl

/-- One pair more onto the row that the call gathers, as a step of a region that draws. -/
theorem step_append46 {K : Act → World → Prop} {E : Prop} (hgd : o.guard = none) (s x : Operand) (ho : o.op = .call { callee := .builtin .append, args := #[s, x], argTypes := #[28, 28] })
    (g k T : Nat) (m : List (ByteArray × Int)) (hs : a.eval s = .slice (some ⟨g, 0, none⟩) k T) (hf : Filled w g T k m) (hk : k = m.length) (hT : k + 1 ≤ T)
    (b : Nat) (e : ByteArray × Int) (hx : a.eval x = .slice (some ⟨b, 0, none⟩) 1 1) (c0 : w.cell? ⟨b, 0, none⟩ = some (.string e.1)) (c1 : w.cell? ⟨b, 1, none⟩ = some (.int .u64 e.2))
    (h : ∀ w', Filled w' g T (k + 1) (m ++ [e]) → Turned w w' g → K (a.put o.dst (.slice (some ⟨g, 0, none⟩) (k + 1) T)) w') :
    if Region.wanted o (yielded ops a.tmps) = true then Oper.wp Try.prog o a w K Q else E := by
  obtain ⟨i0, hi0, hz0, hz1, hz2⟩ := info_parts info46
  refine step_append_room hgd s x 28 ho 46 i0 2 Try.underlying28 hi0 hz1 g 0 k T hs ⟨b, 0, none⟩ 1 1 [.string e.1, .int .u64 e.2] hx rfl (fun j u hj => ?_) (fun u hu => ?_) hT (fun j hj => spare46 hf hT j hj) ?_
  · match j, hj with
    | 0, hj => simp at hj; subst hj; simpa [Addr.add] using c0
    | 1, hj => simp at hj; subst hj; simpa [Addr.add] using c1
  · simp at hu; rcases hu with rfl | rfl <;> rfl
  · exact h _ (hf.snoc hk hT e) (setCells_turned _ _ _ _ _)

theorem wpList_append46 (hgd : o.guard = none) (s x : Operand) (ho : o.op = .call { callee := .builtin .append, args := #[s, x], argTypes := #[28, 28] })
    (g k T : Nat) (m : List (ByteArray × Int)) (hs : a.eval s = .slice (some ⟨g, 0, none⟩) k T) (hf : Filled w g T k m) (hk : k = m.length) (hT : k + 1 ≤ T)
    (b : Nat) (e : ByteArray × Int) (hx : a.eval x = .slice (some ⟨b, 0, none⟩) 1 1) (c0 : w.cell? ⟨b, 0, none⟩ = some (.string e.1)) (c1 : w.cell? ⟨b, 1, none⟩ = some (.int .u64 e.2))
    (h : ∀ w', Filled w' g T (k + 1) (m ++ [e]) → Turned w w' g → wpList Try.prog ops Q rest (a.put o.dst (.slice (some ⟨g, 0, none⟩) (k + 1) T)) w') : wpList Try.prog ops Q (o :: rest) a w :=
  wpList_step fun _ hK => step_append46 hgd s x ho g k T m hs hf hk hT b e hx c0 c1 fun w' h1 h2 => hK _ _ (h w' h1 h2)
end Append

/-- Block b is a variable that holds the pair e. -/
def Pair (w : World) (b : Nat) (e : ByteArray × Int) : Prop := w.heap[b]? = some (.cells #[.string e.1, .int .u64 e.2] 46 (0, 0))

theorem Pair.cell0 {w : World} {b : Nat} {e : ByteArray × Int} (h : Pair w b e) : w.cell? ⟨b, 0, none⟩ = some (.string e.1) := by simp [World.cell?, show w.heap[b]? = _ from h]
theorem Pair.cell1 {w : World} {b : Nat} {e : ByteArray × Int} (h : Pair w b e) : w.cell? ⟨b, 1, none⟩ = some (.int .u64 e.2) := by simp [World.cell?, show w.heap[b]? = _ from h]
theorem Pair.frozen {w : World} {b : Nat} {e : ByteArray × Int} (h : Pair w b e) (i : Nat) : w.frozen? ⟨b, i, none⟩ = false := by simp [World.frozen?, show w.heap[b]? = _ from h]

theorem zeroV46 (w : World) : (zeroValue 46).run Try.prog w = .ok (.agg #[.string ⟨#[]⟩, .int .u64 0]) w := by kernel_rfl
theorem sizeI46 : (Try.prog.info? 46).map (·.size) = some 2 := by kernel_rfl

section Pairs
variable {ops : Array Oper} {rest : List Oper} {op : Oper} {a : Act} {w : World} {Q : Exit → Act → World → Prop}
/-- A new variable of pairs. -/
theorem wpList_alloc46 (ho : op.op = .alloc 46) (hgd : op.guard = none)
    (h : ∀ b w', w.heap.size ≤ b → b < w'.heap.size → Pair w' b (⟨#[]⟩, 0) → Below w.heap.size w w' → wpList Try.prog ops Q rest (a.put op.dst (.pointer (some ⟨b, 0, none⟩))) w') : wpList Try.prog ops Q (op :: rest) a w := by
  refine wpList_plain hgd fun K hK => ?_
  unfold Oper.wp execOp
  simp only [ho, Sem.run_bind]
  exact hK _ _ (h _ _ (Nat.le_refl _) (by simp) (heap_alloc_new w (.cells #[.string ⟨#[]⟩, .int .u64 0] 46)) (below_alloc w _))

/-- A pair goes whole into a variable that holds one. -/
theorem wpList_store46 (x y : Operand) (ho : op.op = .store 46 x y) (hgd : op.guard = none) (b : Nat) (z e : ByteArray × Int) (hx : a.eval x = .pointer (some ⟨b, 0, none⟩)) (hy : a.eval y = .agg #[.string e.1, .int .u64 e.2])
    (hZ : Pair w b z) (h : ∀ w', Pair w' b e → Turned w w' b → wpList Try.prog ops Q rest (a.put op.dst undef) w') : wpList Try.prog ops Q (op :: rest) a w := by
  refine wpList_plain hgd fun K hK => ?_
  have hs := run_storeVar_row (P := Try.prog) w b 46 46 #[.string z.1, .int .u64 z.2] #[.string e.1, .int .u64 e.2] hZ (by rw [sizeI46]; rfl) rfl (by simp [Value.oneCell'])
  unfold Oper.wp execOp
  simp only [ho, hx, hy, Instr.storeAt, Instr.sureAddr, Sem.run_bind, Sem.run_pure, Result.andThen_ok, hs]
  exact hK _ _ (h _ (setRow_heap w b _ _ 46 (0, 0) hZ) (setRow_turned w b _))

def pairOp : Op → Bool
  | .alloc 46 => true
  | .store 46 _ _ => true
  | _ => false
theorem stop46 (_ho : pairOp op.op = true) (h : Stop (wpList Try.prog ops Q (op :: rest) a w)) : wpList Try.prog ops Q (op :: rest) a w := h
end Pairs

theorem Pair.below {w w' : World} {b : Nat} {e : ByteArray × Int} (h : Pair w b e) (hb : Below w.heap.size w w') : Pair w' b e := by
  refine (hb.block b ?_).trans h
  rcases Nat.lt_or_ge b w.heap.size with h' | h'
  · exact h'
  · have := h; unfold Pair at this; rw [Array.getElem?_eq_none h'] at this; cases this

theorem Turned.filled {w w' : World} {b g T k : Nat} {m : List (ByteArray × Int)} (h : Turned w w' b) (hf : Filled w g T k m) (hne : g ≠ b) : Filled w' g T k m := by
  obtain ⟨cur, hg, hs, hc⟩ := hf
  exact ⟨cur, (h.block g hne).trans hg, hs, hc⟩

theorem Filled.lt {w : World} {g T k : Nat} {m : List (ByteArray × Int)} (hf : Filled w g T k m) : g < w.heap.size := by
  obtain ⟨cur, hg, _, _⟩ := hf
  rcases Nat.lt_or_ge g w.heap.size with h | h
  · exact h
  · rw [Array.getElem?_eq_none h] at hg; cases hg

theorem Filled.below {w w' : World} {g T k : Nat} {m : List (ByteArray × Int)} (h : Filled w g T k m) (hb : Below w.heap.size w w') : Filled w' g T k m := by
  obtain ⟨cur, hg, hs, hc⟩ := h
  refine ⟨cur, ?_, hs, hc⟩
  rw [hb.block g ?_]
  · exact hg
  · rcases Nat.lt_or_ge g w.heap.size with h | h
    · exact h
    · rw [Array.getElem?_eq_none h] at hg; cases hg

theorem new46_0 (w : World) (x y : Value) (b : Nat) (hb : w.heap.size = b) : (w.alloc (.cells #[x, y] 46)).cell? ⟨b, 0, none⟩ = some x := by
  subst hb; simp
theorem new46_1 (w : World) (x y : Value) (b : Nat) (hb : w.heap.size = b) : (w.alloc (.cells #[x, y] 46)).cell? ⟨b, 1, none⟩ = some y := by
  subst hb; simp

theorem size46 (w : World) : (sizeOf 46).run Try.prog w = .ok 2 w := by kernel_rfl
/-- 'x[1:]' of a slice over pairs: the row of what is left. -/
theorem slice_next {w : World} {b off n c : Nat} {e : ByteArray × Int} {l : List (ByteArray × Int)} (h : Row w (some ⟨b, off, none⟩) (e :: l)) (hn : n + 1 = (e :: l).length) (hc : n + 1 ≤ c) :
    ∃ (A : Option Addr) (C : Nat), (∀ wx, (Instr.sliceAt 28 (.slice (some ⟨b, off, none⟩) (n + 1) c) (some (.int .i64 1)) none none).run Try.prog wx = .ok (.slice A n C) wx) ∧ Row w A l ∧ n ≤ C := by
  refine ⟨if c = 1 then some ⟨b, off, none⟩ else some ⟨b, off + 2, none⟩, c - 1, fun wx => ?_, ?_, by omega⟩
  · have h1 : (1 : Int) ≤ ((n + 1 : Nat) : Int) := by omega
    have hb := run_sliceBound (P := Try.prog) wx .i64 1 (n + 1) .sliceB (by omega) h1
    have hsz := size46 wx
    simp only [Instr.sliceAt, Sem.run_bind, run_underlying Try.underlying28, Result.andThen_ok, Instr.slice, Instr.sliceBounds, Sem.run_pure, Option.isSome_none, Bool.false_eq_true, if_false, hb, hsz]
    by_cases hc1 : c = 1
    · subst hc1; simp
    · simp [hc1, Addr.add]
  · split
    · have : l = [] := by cases l with | nil => rfl | cons x l => simp at hn; omega
      subst this; exact Row.nil _ _
    · exact h.tail

/-- What the call hands back: the larger of t and u, name by name, in new memory or t itself. -/
def MaxOf (t u : List (ByteArray × Int)) (a : Option Addr) (cap B : Nat) (w : World) (e : Ending) : Prop :=
  ∃ (m : List (ByteArray × Int)) (a' : Option Addr) (cap' : Nat), e = .returned (.slice a' m.length cap') ∧ m.length ≤ cap' ∧ Row w a' m ∧ ((a' = a ∧ cap' = cap ∧ m = t) ∨ ∃ g, a' = some ⟨g, 0, none⟩ ∧ B ≤ g) ∧ IsMax t u m ∧ m.length ≤ t.length + u.length

/-- What holds at the head of each round: t' and u' are still to come, m has been gathered in block g, which has room for T pairs. -/
def MaxRel (w : World) (g T : Nat) (t u : List (ByteArray × Int)) (v0 v1 v5 : Value) (wr : World) : Prop :=
  ∃ (t' u' m : List (ByteArray × Int)) (a0 a1 : Option Addr) (n0 c0 n1 c1 k : Nat), v0 = .slice a0 n0 c0 ∧ n0 = t'.length ∧ n0 ≤ c0 ∧ Row w a0 t' ∧ v1 = .slice a1 n1 c1 ∧ n1 = u'.length ∧ n1 ≤ c1 ∧ Row w a1 u' ∧
    v5 = .slice (some ⟨g, 0, none⟩) k T ∧ k = m.length ∧ Filled wr g T k m ∧ k + n0 + n1 ≤ T ∧ MaxInv t u m t' u' ∧ Below w.heap.size w wr

/-- The head of a row that is not empty. -/
theorem Row.cons {w : World} {a : Option Addr} {e : ByteArray × Int} {l : List (ByteArray × Int)} (h : Row w a (e :: l)) :
    ∃ b off, a = some ⟨b, off, none⟩ ∧ b < w.heap.size ∧ w.cell? ⟨b, off, none⟩ = some (.string e.1) ∧ w.cell? ⟨b, off + 1, none⟩ = some (.int .u64 e.2) := by
  obtain ⟨b, off, rfl, c0, c1⟩ := h 0 (by simp)
  refine ⟨b, off, rfl, World.block_lt_of_cell? _ _ c0, ?_, ?_⟩
  · simpa [at_] using c0
  · simpa [at_] using c1

theorem Row.cons_next {w : World} {b off n c : Nat} {e : ByteArray × Int} {l : List (ByteArray × Int)} (h : Row w (some ⟨b, off, none⟩) (e :: l)) (hn : n = (e :: l).length) (hc : n ≤ c) :
    Row w (if c = 1 then some ⟨b, off, none⟩ else some ⟨b, off + 2, none⟩) l := by
  split
  · have : l = [] := by cases l with | nil => rfl | cons x l => simp at hn; omega
    subst this; exact Row.nil _ _
  · exact h.tail

set_option maxRecDepth 100000 in
set_option maxHeartbeats 2000000 in
theorem max18 (a a' : Option Addr) (cap cap' : Nat) (t u : List (ByteArray × Int)) (w : World) (ht : t.length ≤ 500000) (hu : u.length ≤ 500000) (hc : t.length ≤ cap) (hc' : u.length ≤ cap')
    (st : Srt t) (su : Srt u) (pt : Pos t) (pu : Pos u) (hr : Row w a t) (hr' : Row w a' u) :
    Calls Try.prog 18 #[.slice a t.length cap, .slice a' u.length cap'] w fun e w' => MaxOf t u a cap w.heap.size w' e ∧ Below w.heap.size w w' := by
  have hmk := make28 0 (t.length + u.length) (Nat.zero_le _) (by omega)
  have hsum : ((t.length + u.length : Nat) : Int) = (t.length : Int) + (u.length : Int) := by omega
  have hz0 : ((0 : Nat) : Int) = 0 := rfl
  rw [hsum, hz0] at hmk
  clear hsum hz0
  have START : Hid (MaxInv t u [] t u) := MaxInv.start st su pt pu
  have LEFT : Hid (LE u t → IsMax t u t) := IsMax.left st pt
  go_enter Try.func18, Try.ntmps18
  go_wp2_with fail
  refine (leq37 _ _ _ _ _ _ _ (by omega) (by omega) hc su st pt hr' hr).mono ?_
  rintro e w1 ⟨⟨b, rfl, hle⟩, hb1⟩
  cases b with
  | true =>
    have HL : Hid (IsMax t u t) := LEFT.out (hle.1 rfl)
    clear hle START LEFT hmk
    go_wp2
    go_ret
    exact ⟨⟨t, a, cap, rfl, hc, hr.below hb1, Or.inl ⟨rfl, rfl, rfl⟩, HL.out, by omega⟩, hb1⟩
  | false =>
    clear hle LEFT st su pt pu
    have hg1 := hb1.size
    have hb2 : Below w.heap.size w (w1.alloc (.cells (zeros (t.length + u.length)) 46)) := hb1.alloc hb1.size _
    have hfe := Filled.empty w1 (t.length + u.length)
    go_wp2
    go_loopw [0, 1, 5] (fun v0 v1 v5 wr => MaxRel w w1.heap.size (t.length + u.length) t u v0 v1 v5 wr) (fun v0 v1 _ _ => slLen v0 + slLen v1)
    case atStart => exact ⟨t, u, [], a, a', _, cap, _, cap', 0, rfl, rfl, hc, hr, rfl, rfl, hc', hr', rfl, rfl, hfe, by omega, START.out, hb2⟩
    case round =>
      clear hmk START hb2 hfe hr hr' hb1
      obtain ⟨t', u', m, a0, a1, n0, c0, n1, c1, k, rfl, hn0, hc0, r0, rfl, hn1, hc1, r1, rfl, hk, hf, hT, HI, hb⟩ := hrel
      cases u' with
      | nil =>
        obtain rfl : n1 = 0 := by simpa using hn1
        cases t' with
        | nil =>
          obtain rfl : n0 = 0 := by simpa using hn0
          have HK : Hid (k = m.length) := hk
          clear hn0 hn1 r0 r1 hk
          go_wp2
          go_ret
          have hk := HK.out
          subst hk
          exact ⟨⟨m, _, _, rfl, by omega, hf.row, Or.inr ⟨_, rfl, hg1⟩, HI.done, by omega⟩, hb⟩
        | cons x t'' =>
          obtain ⟨b, off, rfl, hlt, d0, d1⟩ := r0.cons
          have e0 := (hb.cell (p := ⟨b, off, none⟩) hlt).trans d0
          have e1 := (hb.cell (p := ⟨b, off + 1, none⟩) hlt).trans d1
          have hne : w1.heap.size ≠ b := by omega
          obtain ⟨n, rfl⟩ : ∃ n, n0 = n + 1 := ⟨n0 - 1, by simp at hn0; omega⟩
          have HN : Hid (n + 1 = (x :: t'').length) := hn0
          have HK : Hid (k = m.length) := hk
          obtain ⟨⟨v0, f0⟩, ⟨v1, f1⟩, hfz⟩ := hf.cells k (by omega)
          obtain ⟨A, C, hsl, hA, hC⟩ := slice_next r0 hn0 hc0
          clear hn0 hn1 hk d0 d1
          go_wp2
          go_quiet (fail)
          go_wp2
          go_region_held3 (fun w' => w'.cell? ⟨b, off, none⟩ = some (.string x.1) ∧ w'.cell? ⟨b, off + 1, none⟩ = some (.int .u64 x.2))
            (first
              | go_keep
              | (go_split_ands
                 refine ⟨?_, ?_⟩
                 · (rw [World.cell?_of_block (ht'.block b (Ne.symm hne))]; assumption)
                 · (rw [World.cell?_of_block (ht'.block b (Ne.symm hne))]; assumption)))
            ((refine step_append46 (by rfl) _ _ (by rfl) _ _ _ m (by rfl) ?_ HK.out (by omega) _ x (by rfl) ?_ ?_ ?_
              · exact hf.below (by repeat (first | exact Below.refl _ _ | refine below_drewN ?_ _ | refine Below.drew ?_ | refine Below.alloc ?_ (by simp) _))
              · exact new46_0 _ _ _ _ rfl
              · exact new46_1 _ _ _ _ rfl
              intro w' hf' ht'))
          go_wp2
          go_roundw
          case rel =>
            refine ⟨t'', [], m ++ [x], A, a1, n, C, 0, c1, k + 1, rfl, by simpa using HN.out, hC, hA, rfl, rfl, hc1, r1, rfl, by rw [HK.out]; simp, hf', by omega, HI.left (fun _ h => by cases h), ?_⟩
            refine Below.trans (b := wr) hb (Below.trans ?_ (ht'.below hg1))
            repeat (first | exact Below.refl _ _ | refine below_drewN ?_ _ | refine Below.drew ?_ | refine Below.alloc ?_ (by simp; exact hb.size) _)
          case measure => simp [slLen]
      | cons y u'' =>
        obtain ⟨b2, off2, rfl, hlt2, p0, p1⟩ := r1.cons
        have q0 := (hb.cell (p := ⟨b2, off2, none⟩) hlt2).trans p0
        have q1 := (hb.cell (p := ⟨b2, off2 + 1, none⟩) hlt2).trans p1
        have hne2 : w1.heap.size ≠ b2 := by omega
        obtain ⟨l, rfl⟩ : ∃ l, n1 = l + 1 := ⟨n1 - 1, by simp at hn1; omega⟩
        have HN1 : Hid (l + 1 = (y :: u'').length) := hn1
        obtain ⟨A2, C2, hsl2, hA2, hC2⟩ := slice_next r1 hn1 hc1
        have HK : Hid (k = m.length) := hk
        obtain ⟨⟨v0, f0⟩, ⟨v1, f1⟩, hfz⟩ := hf.cells k (by omega)
        have j1 : (((l : Int) + 1) == 0) = false := by simp; omega
        clear hn1 hk p0 p1
        cases t' with
        | nil =>
          obtain rfl : n0 = 0 := by simpa using hn0
          clear hn0
          by_cases hy : 0 < y.2
          · go_wp2
            go_quiet (fail)
            go_wp2
            go_quiet (fail)
            go_wp2_with (at_builtin; refine wpList_append46 (by rfl) _ _ (by rfl) _ _ _ m (by rfl) ?c1 HK.out (by omega) _ y (by rfl) ?c2 ?c3 ?_)
            case c1 => exact hf.below (by repeat (first | exact Below.refl _ _ | refine below_drewN ?_ _ | refine Below.drew ?_ | refine Below.alloc ?_ (by simp) _))
            case c2 => exact new46_0 _ _ _ _ rfl
            case c3 => exact new46_1 _ _ _ _ rfl
            intro w' hf' ht'
            go_wp2
            go_roundw
            case rel =>
              refine ⟨[], u'', m ++ [y], a0, A2, 0, c0, l, C2, k + 1, rfl, rfl, hc0, r0, rfl, by simpa using HN1.out, hC2, hA2, rfl, by rw [HK.out]; simp, hf', by omega, HI.right (fun _ h => by cases h), ?_⟩
              refine Below.trans (b := wr) hb (Below.trans ?_ (ht'.below hg1))
              repeat (first | exact Below.refl _ _ | refine below_drewN ?_ _ | refine Below.drew ?_ | refine Below.alloc ?_ (by simp; exact hb.size) _)
            case measure => simp [slLen]
          · have hy' : decide (0 < y.2) = false := by simp; omega
            go_wp2
            go_quiet (fail)
            go_wp2
            go_quiet (fail)
            go_wp2
            go_roundw
            case rel =>
              exact ⟨[], u'', m, a0, A2, 0, c0, l, C2, k, rfl, rfl, hc0, r0, rfl, by simpa using HN1.out, hC2, hA2, rfl, HK.out, hf.below (by repeat (first | exact Below.refl _ _ | refine below_drewN ?_ _ | refine Below.drew ?_ | refine Below.alloc ?_ (by simp) _)), by omega, HI.skip (by omega), below_drewN hb _⟩
            case measure => simp [slLen]
        | cons x t'' =>
          obtain ⟨b, off, rfl, hlt, d0, d1⟩ := r0.cons
          have e0 := (hb.cell (p := ⟨b, off, none⟩) hlt).trans d0
          have e1 := (hb.cell (p := ⟨b, off + 1, none⟩) hlt).trans d1
          have hne : w1.heap.size ≠ b := by omega
          obtain ⟨n, rfl⟩ : ∃ n, n0 = n + 1 := ⟨n0 - 1, by simp at hn0; omega⟩
          have HN : Hid (n + 1 = (x :: t'').length) := hn0
          obtain ⟨A, C, hsl, hA, hC⟩ := slice_next r0 hn0 hc0
          have j2 : (((n : Int) + 1) == 0) = false := by simp; omega
          clear hn0 d0 d1
          by_cases hxy : ltB x.1 y.1 = true
          · have HL : Hid (ltB x.1 y.1 = true) := hxy
            have hxy' : Op.bytesLess x.1.toList y.1.toList = true := hxy
            clear hxy
            go_wp2
            go_quiet (fail)
            go_wp2
            go_region_held3 (fun w' => w'.cell? ⟨b, off, none⟩ = some (.string x.1) ∧ w'.cell? ⟨b, off + 1, none⟩ = some (.int .u64 x.2))
              (first
                | go_keep
                | (go_split_ands
                   refine ⟨?_, ?_⟩
                   · (rw [World.cell?_of_block (ht'.block b (Ne.symm hne))]; assumption)
                   · (rw [World.cell?_of_block (ht'.block b (Ne.symm hne))]; assumption)))
              ((refine step_append46 (by rfl) _ _ (by rfl) _ _ _ m (by rfl) ?_ HK.out (by omega) _ x (by rfl) ?_ ?_ ?_
                · exact hf.below (by repeat (first | exact Below.refl _ _ | refine below_drewN ?_ _ | refine Below.drew ?_ | refine Below.alloc ?_ (by simp) _))
                · exact new46_0 _ _ _ _ rfl
                · exact new46_1 _ _ _ _ rfl
                intro w' hf' ht'))
            go_wp2
            go_roundw
            case rel =>
              refine ⟨t'', y :: u'', m ++ [x], A, _, n, C, l + 1, c1, k + 1, rfl, by simpa using HN.out, hC, hA, rfl, HN1.out, hc1, r1, rfl, by rw [HK.out]; simp, hf', by omega, HI.left (lt_all HI.su HL.out), ?_⟩
              refine Below.trans (b := wr) hb (Below.trans ?_ (ht'.below hg1))
              repeat (first | exact Below.refl _ _ | refine below_drewN ?_ _ | refine Below.drew ?_ | refine Below.alloc ?_ (by simp; exact hb.size) _)
            case measure => simp [slLen]
          · have hxy0 : ltB x.1 y.1 = false := by simpa using hxy
            have hxy' : Op.bytesLess x.1.toList y.1.toList = false := hxy0
            have HX : Hid (ltB x.1 y.1 = false) := hxy0
            clear hxy hxy0
            by_cases hyx : ltB y.1 x.1 = true
            · have HL : Hid (ltB y.1 x.1 = true) := hyx
              have hyx' : Op.bytesLess y.1.toList x.1.toList = true := hyx
              clear hyx
              by_cases hy : 0 < y.2
              · go_wp2
                go_quiet (fail)
                go_wp2
                go_quiet (fail)
                go_wp2_with (at_builtin; refine wpList_append46 (by rfl) _ _ (by rfl) _ _ _ m (by rfl) ?c1 HK.out (by omega) _ y (by rfl) ?c2 ?c3 ?_)
                case c1 => exact hf.below (by repeat (first | exact Below.refl _ _ | refine below_drewN ?_ _ | refine Below.drew ?_ | refine Below.alloc ?_ (by simp) _))
                case c2 => exact new46_0 _ _ _ _ rfl
                case c3 => exact new46_1 _ _ _ _ rfl
                intro w' hf' ht'
                go_wp2
                go_roundw
                case rel =>
                  refine ⟨x :: t'', u'', m ++ [y], _, A2, n + 1, c0, l, C2, k + 1, rfl, HN.out, hc0, r0, rfl, by simpa using HN1.out, hC2, hA2, rfl, by rw [HK.out]; simp, hf', by omega, HI.right (lt_all HI.st HL.out), ?_⟩
                  refine Below.trans (b := wr) hb (Below.trans ?_ (ht'.below hg1))
                  repeat (first | exact Below.refl _ _ | refine below_drewN ?_ _ | refine Below.drew ?_ | refine Below.alloc ?_ (by simp; exact hb.size) _)
                case measure => simp [slLen]
              · have hy' : decide (0 < y.2) = false := by simp; omega
                go_wp2
                go_quiet (fail)
                go_wp2
                go_quiet (fail)
                go_wp2
                go_roundw
                case rel =>
                  exact ⟨x :: t'', u'', m, _, A2, n + 1, c0, l, C2, k, rfl, HN.out, hc0, r0, rfl, by simpa using HN1.out, hC2, hA2, rfl, HK.out, hf.below (by repeat (first | exact Below.refl _ _ | refine below_drewN ?_ _ | refine Below.drew ?_ | refine Below.alloc ?_ (by simp) _)), by omega, HI.skip (by omega), below_drewN hb _⟩
                case measure => simp [slLen]
            · have hyx0 : ltB y.1 x.1 = false := by simpa using hyx
              have hyx' : Op.bytesLess y.1.toList x.1.toList = false := hyx0
              have HEQ : Hid (x.1 = y.1) := lt_tri HX.out hyx0
              clear hyx hyx0
              go_wp2
              go_quiet (fail)
              go_wp2
              go_quiet (fail)
              go_wp2_with ((with_reducible refine stop46 ?_ ?_); · exact rfl)
              refine Stop.go (wpList_alloc46 (by rfl) (by rfl) ?_)
              intro B w3 lo3 hi3 hp3 hb3
              go_wp2_with ((with_reducible refine stop46 ?_ ?_); · exact rfl)
              refine Stop.go (wpList_store46 _ _ (by rfl) (by rfl) B _ x (by rfl) (by rfl) hp3 ?_)
              intro w4 hp4 ht4
              have lo3' : wr.heap.size ≤ B := lo3
              have hbw : Below wr.heap.size wr w4 := (Below.trans (b := w3) ⟨hb3.os, hb3.tape, hb3.output, hb3.size, hb3.block⟩ (ht4.below lo3'))
              have hf4 := hf.below hbw
              have hgB : w1.heap.size ≠ B := by have := hf.lt; omega
              have hbw4 : Below w.heap.size w w4 := hb.trans (hbw.mono hb.size)
              have x0 := hp4.cell0
              have x1 := hp4.cell1
              have x2 := hp4.frozen 1
              have q1' := (hbw4.cell (p := ⟨b2, off2 + 1, none⟩) hlt2).trans ((hb.cell (p := ⟨b2, off2 + 1, none⟩) hlt2).symm.trans q1)
              have hb2B : b2 ≠ B := by have := hb.size; omega
              clear q0 q1 e0 e1 f0 f1 hfz hf hp3 hb3 hi3 ht4 hp4
              by_cases hmx : x.2 < y.2
              · have z0 : ((w4.setCell ⟨B, 1, none⟩ (.int .u64 y.2)).drew).cell? ⟨B, 0, none⟩ = some (.string x.1) := by rw [← x0]; exact World.cell?_setCell_other _ _ _ _ (by simp)
                have z1 : ((w4.setCell ⟨B, 1, none⟩ (.int .u64 y.2)).drew).cell? ⟨B, 1, none⟩ = some (.int .u64 y.2) := World.cell?_setCell_same _ _ _ x1
                have hfZ : Filled ((w4.setCell ⟨B, 1, none⟩ (.int .u64 y.2)).drew) w1.heap.size (t.length + u.length) k m := by
                  obtain ⟨cur, hg, hs, hc⟩ := hf4
                  exact ⟨cur, (Below.heap_setCell _ _ _ _ hgB).trans hg, hs, hc⟩
                have hbZ : Below w.heap.size w ((w4.setCell ⟨B, 1, none⟩ (.int .u64 y.2)).drew) := (hbw4.setCell (by show w.heap.size ≤ B; have := hb.size; omega) _).drew
                go_wp2
                go_region
                all_goals
                  go_wp2
                  generalize (w4.setCell ⟨B, 1, none⟩ (.int .u64 y.2)).drew = wz at z0 z1 hfZ hbZ ⊢
                  clear x0 x1 x2 q1' hf4 hbw hbw4
                  go_region_held3 (fun w' => w'.cell? ⟨B, 0, none⟩ = some (.string x.1) ∧ w'.cell? ⟨B, 1, none⟩ = some (.int .u64 y.2))
                    (first
                      | go_keep
                      | (go_split_ands
                         refine ⟨?_, ?_⟩
                         · (rw [World.cell?_of_block (ht'.block B (Ne.symm hgB))]; assumption)
                         · (rw [World.cell?_of_block (ht'.block B (Ne.symm hgB))]; assumption)))
                    ((refine step_append46 (by rfl) _ _ (by rfl) _ _ _ m (by rfl) ?_ HK.out (by omega) _ (x.1, y.2) (by rfl) ?_ ?_ ?_
                      · exact hfZ.below (by repeat (first | exact Below.refl _ _ | refine below_drewN ?_ _ | refine Below.drew ?_ | refine Below.alloc ?_ (by simp) _))
                      · exact new46_0 _ _ _ _ rfl
                      · exact new46_1 _ _ _ _ rfl
                      intro w' hf' ht'))
                  go_wp2
                  go_roundw
                  case rel =>
                    have HI' : MaxInv t u m ((x.1, x.2) :: t'') ((x.1, y.2) :: u'') := by
                      have := HI
                      rw [show (x.1, y.2) = y by rw [HEQ.out]]
                      exact this
                    have HB := HI'.both
                    rw [show max x.2 y.2 = y.2 by omega] at HB
                    refine ⟨t'', u'', m ++ [(x.1, y.2)], A, A2, n, C, l, C2, k + 1, rfl, by simpa using HN.out, hC, hA, rfl, by simpa using HN1.out, hC2, hA2, rfl, by rw [HK.out]; simp, hf', by omega, HB, ?_⟩
                    refine Below.trans (b := wz) hbZ (Below.trans ?_ (ht'.below hg1))
                    repeat (first | exact Below.refl _ _ | refine below_drewN ?_ _ | refine Below.drew ?_ | refine Below.alloc ?_ (by first | exact hbZ.size | (simp; exact hbZ.size)) _)
                  case measure => simp only [slLen]; omega
              · have z0 : ((w4.setCell ⟨B, 1, none⟩ (.int .u64 x.2)).drew).cell? ⟨B, 0, none⟩ = some (.string x.1) := by rw [← x0]; exact World.cell?_setCell_other _ _ _ _ (by simp)
                have z1 : ((w4.setCell ⟨B, 1, none⟩ (.int .u64 x.2)).drew).cell? ⟨B, 1, none⟩ = some (.int .u64 x.2) := World.cell?_setCell_same _ _ _ x1
                have hfZ : Filled ((w4.setCell ⟨B, 1, none⟩ (.int .u64 x.2)).drew) w1.heap.size (t.length + u.length) k m := by
                  obtain ⟨cur, hg, hs, hc⟩ := hf4
                  exact ⟨cur, (Below.heap_setCell _ _ _ _ hgB).trans hg, hs, hc⟩
                have hbZ : Below w.heap.size w ((w4.setCell ⟨B, 1, none⟩ (.int .u64 x.2)).drew) := (hbw4.setCell (by show w.heap.size ≤ B; have := hb.size; omega) _).drew
                go_wp2
                go_region
                all_goals
                  go_wp2
                  generalize (w4.setCell ⟨B, 1, none⟩ (.int .u64 x.2)).drew = wz at z0 z1 hfZ hbZ ⊢
                  clear x0 x1 x2 q1' hf4 hbw hbw4
                  go_region_held3 (fun w' => w'.cell? ⟨B, 0, none⟩ = some (.string x.1) ∧ w'.cell? ⟨B, 1, none⟩ = some (.int .u64 x.2))
                    (first
                      | go_keep
                      | (go_split_ands
                         refine ⟨?_, ?_⟩
                         · (rw [World.cell?_of_block (ht'.block B (Ne.symm hgB))]; assumption)
                         · (rw [World.cell?_of_block (ht'.block B (Ne.symm hgB))]; assumption)))
                    ((refine step_append46 (by rfl) _ _ (by rfl) _ _ _ m (by rfl) ?_ HK.out (by omega) _ (x.1, x.2) (by rfl) ?_ ?_ ?_
                      · exact hfZ.below (by repeat (first | exact Below.refl _ _ | refine below_drewN ?_ _ | refine Below.drew ?_ | refine Below.alloc ?_ (by simp) _))
                      · exact new46_0 _ _ _ _ rfl
                      · exact new46_1 _ _ _ _ rfl
                      intro w' hf' ht'))
                  go_wp2
                  go_roundw
                  case rel =>
                    have HI' : MaxInv t u m ((x.1, x.2) :: t'') ((x.1, y.2) :: u'') := by
                      have := HI
                      rw [show (x.1, y.2) = y by rw [HEQ.out]]
                      exact this
                    have HB := HI'.both
                    rw [show max x.2 y.2 = x.2 by omega] at HB
                    refine ⟨t'', u'', m ++ [(x.1, x.2)], A, A2, n, C, l, C2, k + 1, rfl, by simpa using HN.out, hC, hA, rfl, by simpa using HN1.out, hC2, hA2, rfl, by rw [HK.out]; simp, hf', by omega, HB, ?_⟩
                    refine Below.trans (b := wz) hbZ (Below.trans ?_ (ht'.below hg1))
                    repeat (first | exact Below.refl _ _ | refine below_drewN ?_ _ | refine Below.drew ?_ | refine Below.alloc ?_ (by first | exact hbZ.size | (simp; exact hbZ.size)) _)
                  case measure => simp only [slLen]; omega

end Go.Proofs.Qxb6612745a
