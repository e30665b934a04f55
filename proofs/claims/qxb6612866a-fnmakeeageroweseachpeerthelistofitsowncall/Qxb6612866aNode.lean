/- The node: its cells, and the functions that read and write them. -/
import Derived.Test.Qxb6612866aSearch
import Derived.Test.Qxb6612866aRowsOf
import Derived.Test.Qxb6612866aRegion
namespace Go.Proofs.Qxb6612866a
open Go.RowKit

/-- All but block b stays. -/
structure Turned (w w' : World) (b : Nat) : Prop where
  os : w'.os = w.os
  tape : w'.tape = w.tape
  output : w'.output = w.output
  size : w'.heap.size = w.heap.size
  block : ∀ k, k ≠ b → w'.heap[k]? = w.heap[k]?

theorem setCell_turned (w : World) (b i : Nat) (v : Value) : Turned w (w.setCell ⟨b, i, none⟩ v) b :=
  ⟨rfl, rfl, rfl, by simp [World.setCell], fun k hk => Below.heap_setCell _ _ _ _ hk⟩
theorem Turned.below {w w' : World} {b B : Nat} (h : Turned w w' b) (hB : B ≤ b) : Below B w w' :=
  ⟨h.os, h.tape, h.output, Nat.le_of_eq h.size.symm, fun k hk => h.block k (by omega)⟩
theorem Turned.cell {w w' : World} {b : Nat} (h : Turned w w' b) {a : Addr} (hne : a.block ≠ b) : w'.cell? a = w.cell? a := World.cell?_of_block (w := w) (h.block a.block hne)

/-- The address lies in no block b. -/
def Off (a : Option Addr) (b : Nat) : Prop := ∀ x, a = some x → x.block ≠ b

theorem Turned.row {w w' : World} {b : Nat} {a : Option Addr} {l : List Int} (h : Turned w w' b) (hr : Row w a l) (hne : Off a b) : Row w' a l := by
  intro i hi
  obtain ⟨b', off, e, c⟩ := hr i hi
  exact ⟨b', off, e, by rw [h.cell (a := ⟨b', off + i, none⟩) (show b' ≠ b from hne _ e)]; exact c⟩

/-- Block b holds a node: its neighbours, lazy flags, unannounced payloads, debts. -/
def Nd (w : World) (b : Nat) (nb lz un ow : Value) : Prop :=
  ∃ C : Array Value, w.heap[b]? = some (.cells C 63 (0, 0)) ∧ C.size = 30 ∧ C[9]? = some nb ∧ C[10]? = some lz ∧ C[15]? = some un ∧ C[17]? = some ow

section
variable {w w' : World} {b : Nat} {nb lz un ow : Value}
theorem Nd.c9 (h : Nd w b nb lz un ow) : w.cell? ⟨b, 9, none⟩ = some nb := by obtain ⟨C, h0, _, h9, _⟩ := h; simp [World.cell?, h0, h9]
theorem Nd.c10 (h : Nd w b nb lz un ow) : w.cell? ⟨b, 10, none⟩ = some lz := by obtain ⟨C, h0, _, _, h9, _⟩ := h; simp [World.cell?, h0, h9]
theorem Nd.c15 (h : Nd w b nb lz un ow) : w.cell? ⟨b, 15, none⟩ = some un := by obtain ⟨C, h0, _, _, _, h9, _⟩ := h; simp [World.cell?, h0, h9]
theorem Nd.c17 (h : Nd w b nb lz un ow) : w.cell? ⟨b, 17, none⟩ = some ow := by obtain ⟨C, h0, _, _, _, _, h9⟩ := h; simp [World.cell?, h0, h9]
theorem Nd.frozen (h : Nd w b nb lz un ow) (i : Nat) : w.frozen? ⟨b, i, none⟩ = false := by obtain ⟨C, h0, _⟩ := h; simp [World.frozen?, h0]
theorem Nd.lt (h : Nd w b nb lz un ow) : b < w.heap.size := World.block_lt_of_cell? _ _ h.c9
theorem Nd.below (h : Nd w b nb lz un ow) (hb : Below w.heap.size w w') : Nd w' b nb lz un ow := by
  obtain ⟨C, h0, h1⟩ := id h
  exact ⟨C, (hb.block b h.lt).trans h0, h1⟩
theorem Nd.turned (h : Nd w b nb lz un ow) {k : Nat} (ht : Turned w w' k) (hne : b ≠ k) : Nd w' b nb lz un ow := by
  obtain ⟨C, h0, h1⟩ := h
  exact ⟨C, (ht.block b hne).trans h0, h1⟩
theorem Nd.set10 (h : Nd w b nb lz un ow) (v : Value) : Nd (w.setCell ⟨b, 10, none⟩ v) b nb v un ow := by
  obtain ⟨C, h0, h1, h2, h3, h4, h5⟩ := h
  refine ⟨C.setIfInBounds 10 v, by simp [World.setCell, Array.getElem?_modify, h0], by simp [h1], ?_, by simp [h1], ?_, ?_⟩
  all_goals rw [Array.getElem?_setIfInBounds_ne (by omega)]; assumption
theorem Nd.set15 (h : Nd w b nb lz un ow) (v : Value) : Nd (w.setCell ⟨b, 15, none⟩ v) b nb lz v ow := by
  obtain ⟨C, h0, h1, h2, h3, h4, h5⟩ := h
  refine ⟨C.setIfInBounds 15 v, by simp [World.setCell, Array.getElem?_modify, h0], by simp [h1], ?_, ?_, by simp [h1], ?_⟩
  all_goals rw [Array.getElem?_setIfInBounds_ne (by omega)]; assumption
theorem Nd.set17 (h : Nd w b nb lz un ow) (v : Value) : Nd (w.setCell ⟨b, 17, none⟩ v) b nb lz un v := by
  obtain ⟨C, h0, h1, h2, h3, h4, h5⟩ := h
  refine ⟨C.setIfInBounds 17 v, by simp [World.setCell, Array.getElem?_modify, h0], by simp [h1], ?_, ?_, ?_, by simp [h1]⟩
  all_goals rw [Array.getElem?_setIfInBounds_ne (by omega)]; assumption
end

/-- Block g is a row of flags. -/
def Flags (w : World) (g : Nat) (F : List Bool) : Prop :=
  ∃ cur : Array Value, w.heap[g]? = some (.cells cur 4 (0, 0)) ∧ cur.size = F.length ∧ ∀ i, i < F.length → cur[i]? = some (.bool (bt_ F i))

section
variable {w w' : World} {g : Nat} {F : List Bool}
theorem Flags.cell (h : Flags w g F) {i : Nat} (hi : i < F.length) : w.cell? ⟨g, i, none⟩ = some (.bool (bt_ F i)) := by obtain ⟨C, h0, _, h9⟩ := h; simp [World.cell?, h0, h9 i hi]
theorem Flags.frozen (h : Flags w g F) (i : Nat) : w.frozen? ⟨g, i, none⟩ = false := by obtain ⟨C, h0, _⟩ := h; simp [World.frozen?, h0]
theorem Flags.row (h : Flags w g F) : RowB w (some ⟨g, 0, none⟩) F := fun i hi => ⟨g, 0, rfl, by simpa using h.cell hi⟩
theorem Flags.lt (h : Flags w g F) : g < w.heap.size := by
  obtain ⟨C, h0, _⟩ := h
  rcases Nat.lt_or_ge g w.heap.size with h | h
  · exact h
  · rw [Array.getElem?_eq_none h] at h0; cases h0
theorem Flags.below (h : Flags w g F) (hb : Below w.heap.size w w') : Flags w' g F := by
  obtain ⟨C, h0, h1⟩ := id h
  exact ⟨C, (hb.block g h.lt).trans h0, h1⟩
theorem Flags.turned (h : Flags w g F) {k : Nat} (ht : Turned w w' k) (hne : g ≠ k) : Flags w' g F := by
  obtain ⟨C, h0, h1⟩ := h
  exact ⟨C, (ht.block g hne).trans h0, h1⟩
theorem bt_set {F : List Bool} {i j : Nat} {b : Bool} (hi : i < F.length) : bt_ (F.set i b) j = if j = i then b else bt_ F j := by
  unfold bt_
  rw [List.getD_eq_getElem?_getD, List.getD_eq_getElem?_getD, List.getElem?_set]
  by_cases h : i = j
  · subst h; simp [hi]
  · rw [if_neg h, if_neg (fun e => h e.symm)]
theorem Flags.set (h : Flags w g F) {i : Nat} (hi : i < F.length) (b : Bool) : Flags (w.setCell ⟨g, i, none⟩ (.bool b)) g (F.set i b) := by
  obtain ⟨C, h0, h1, h2⟩ := h
  refine ⟨C.setIfInBounds i (.bool b), by simp [World.setCell, Array.getElem?_modify, h0], by simp [h1], fun j hj => ?_⟩
  rw [List.length_set] at hj
  rw [bt_set hi]
  by_cases hij : j = i
  · subst hij; simp [h1, hi]
  · rw [if_neg hij, Array.getElem?_setIfInBounds_ne (fun e => hij e.symm)]; exact h2 j hj
theorem Flags.made (w : World) (n : Nat) : Flags (w.alloc (.cells (zerosOf (.bool false) n) 4)) w.heap.size (List.replicate n false) := by
  refine ⟨zerosOf (.bool false) n, by show (w.heap.push _)[w.heap.size]? = _; simp, by simp [size_zerosOf], fun i hi => ?_⟩
  have hi' : i < n := by simpa using hi
  simp [zerosOf, madeCells, Value.cells, bt_, hi', Nat.mod_one]
end

/-- The lazy flags of a node: none made yet, or a row of their own. -/
def Lz (w : World) (B bn : Nat) (an : Option Addr) (lz : Value) (F : List Bool) : Prop :=
  (lz = .slice none 0 0 ∧ ∃ n, F = List.replicate n false) ∨ ∃ g, lz = .slice (some ⟨g, 0, none⟩) F.length F.length ∧ B ≤ g ∧ g ≠ bn ∧ Off an g ∧ Flags w g F

set_option maxHeartbeats 400000 in
theorem place26 (bn : Nat) (an : Option Addr) (cn : Nat) (lz un ow : Value) (l : List Int) (v : Int) (w : World) (hN : Nd w bn (.slice an l.length cn) lz un ow) (hr : Row w an l) (ha : Asc l) (hl : l.length ≤ 1000000) :
    Calls Try.prog 26 #[.pointer (some ⟨bn, 0, none⟩), .int .i64 v] w fun e w' => IsFind l v e ∧ w' = w := by
  have c9 := hN.c9
  clear hN
  go_enter Try.func26, Try.ntmps26
  go_wp2_with fail
  refine (search30 an cn l v w hl hr ha).mono ?_
  rintro e w1 ⟨⟨k, he, hF⟩, hw⟩
  rw [hw]
  clear hw w1
  generalize hd : decide (k < l.length ∧ at_ l k = v) = fb at he
  subst he
  have HD : Hid (decide (k < l.length ∧ at_ l k = v) = fb) := hd
  have HF : Hid (Found l v k) := hF
  clear hF hd
  go_wp2_with fail
  go_ret2
  exact ⟨⟨k, ret_pair HD.out.symm, HF.out⟩, rfl⟩

/-- A mark at which the walk stands still. -/
def Stop (p : Prop) : Prop := p
theorem Stop.go {p : Prop} (h : p) : Stop p := h

def ndOp : Op → Bool
  | .makeSlice 33 _ _ => true
  | .store 33 _ _ => true
  | .store 4 _ _ => true
  | .store 22 _ _ => true
  | .store 54 _ _ => true
  | _ => false

section
variable {ops : Array Oper} {rest : List Oper} {op : Oper} {a : Act} {w : World} {Q : Exit → Act → World → Prop}
theorem stopN (_ho : ndOp op.op = true) (h : Stop (wpList Try.prog ops Q (op :: rest) a w)) : wpList Try.prog ops Q (op :: rest) a w := h

theorem wpList_make33 (x y : Operand) (ho : op.op = .makeSlice 33 x y) (hgd : op.guard = none) (n : Nat) (hn : n ≤ 1000000) (hx : a.eval x = .int .i64 (n : Int)) (hy : a.eval y = .int .i64 (n : Int))
    (h : ∀ g w', w.heap.size ≤ g → Flags w' g (List.replicate n false) → Below w.heap.size w w' → wpList Try.prog ops Q rest (a.put op.dst (.slice (some ⟨g, 0, none⟩) n n)) w') : wpList Try.prog ops Q (op :: rest) a w := by
  refine wpList_plain hgd fun K hK => ?_
  unfold Oper.wp execOp
  simp only [ho, hx, hy, Sem.run_bind, make33 n n (Nat.le_refl _) (by omega), Result.andThen_ok, Sem.run_pure]
  exact hK _ _ (h _ _ (Nat.le_refl _) (Flags.made w n) ((Below.refl _ _).alloc (Nat.le_refl _) _))

theorem wpList_store1 {t : TypeId} (ht : (Try.prog.info? t).map (·.size) = some 1) (x y : Operand) (ho : op.op = .store t x y) (hgd : op.guard = none) {b i : Nat} {v u : Value} (hx : a.eval x = .pointer (some ⟨b, i, none⟩)) (hy : a.eval y = v) (hv : v.cells = #[v]) (h1 : v.oneCell' = true)
    (hc : w.cell? ⟨b, i, none⟩ = some u) (hf : w.frozen? ⟨b, i, none⟩ = false)
    (h : ∀ w', w' = w.setCell ⟨b, i, none⟩ v → wpList Try.prog ops Q rest (a.put op.dst undef) w') : wpList Try.prog ops Q (op :: rest) a w := by
  refine wpList_plain hgd fun K hK => ?_
  have hsz : (sizeOf t).run Try.prog w = .ok 1 w := by
    cases hi : Try.prog.info? t with
    | none => rw [hi] at ht; cases ht
    | some i =>
      rw [hi] at ht
      simp only [Option.map_some, Option.some.injEq] at ht
      simp [sizeOf, typeInfo, hi, ht]
  unfold Oper.wp execOp
  simp only [ho, hx, hy, Instr.storeAt, Instr.sureAddr, Sem.run_bind, Sem.run_pure, Result.andThen_ok, storeVar, hv, hsz]
  have hst : (storeCells ⟨b, i, none⟩ [v]).run Try.prog w = .ok () (w.setCell ⟨b, i, none⟩ v) := by
    have hz : (⟨b, i, none⟩ : Addr).add 0 = ⟨b, i, none⟩ := by simp [Addr.add]
    unfold storeCells
    rw [hz]
    simp only [Sem.run_bind, run_store _ _ _ _ _ h1, hc, hf, Bool.false_eq_true, if_false, Result.andThen_ok, storeCells, Sem.run_pure]
  simp [hst]
  exact hK _ _ (h _ rfl)
end

theorem sz33 : (Try.prog.info? 33).map (·.size) = some 1 := by kernel_rfl
theorem sz4 : (Try.prog.info? 4).map (·.size) = some 1 := by kernel_rfl
theorem sz22 : (Try.prog.info? 22).map (·.size) = some 1 := by kernel_rfl
theorem sz54 : (Try.prog.info? 54).map (·.size) = some 1 := by kernel_rfl

/-- What a call that hands back nothing leaves. -/
def Done (e : Ending) : Prop := e = .returned (.tuple #[])

theorem heq33 (a : Option Addr) (n c : Nat) (w : World) : (binOp .eql 33 (.slice a n c) (.slice none 0 0)).run Try.prog w = .ok (.bool a.isNone) w := Lib.run_eql_slice_nil w _ _ a _ _ _ _ Try.underlying33

/-- The block that a slice lies in. -/
def blockOf : Value → Option Nat
  | .slice (some x) _ _ => some x.block
  | _ => none

/-- Of the blocks that were there, only the node's and that of its lazy flags may have changed. -/
def KeptBut (w w' : World) (bn : Nat) (lz : Value) : Prop := w.heap.size ≤ w'.heap.size ∧ ∀ k, k < w.heap.size → k ≠ bn → blockOf lz ≠ some k → w'.heap[k]? = w.heap[k]?
theorem KeptBut.refl (w : World) (bn : Nat) (lz : Value) : KeptBut w w bn lz := ⟨Nat.le_refl _, fun _ _ _ _ => rfl⟩
theorem KeptBut.row {w w' : World} {bn : Nat} {lz : Value} {a : Option Addr} {l : List Int} (h : KeptBut w w' bn lz) (hr : Row w a l) (h1 : Off a bn) (h2 : ∀ g, blockOf lz = some g → Off a g) : Row w' a l := by
  intro i hi
  obtain ⟨b', off, e, c⟩ := hr i hi
  have hlt : b' < w.heap.size := World.block_lt_of_cell? _ _ c
  refine ⟨b', off, e, ?_⟩
  rw [World.cell?_of_block (w := w) (a := ⟨b', off + i, none⟩) (h.2 b' hlt (h1 _ e) (fun he => h2 b' he _ e rfl))]
  exact c

/-- The lazy flags lie where they lay, or in new memory. -/
def LzNext (w : World) (lz lz' : Value) : Prop := blockOf lz' = blockOf lz ∨ ∃ g, blockOf lz' = some g ∧ w.heap.size ≤ g

/-- The flags after v has been made lazy, or eager. -/
def setF (l : List Int) (F : List Bool) (v : Int) (b : Bool) (F' : List Bool) : Prop :=
  ∃ k, Found l v k ∧ ((k < l.length ∧ at_ l k = v ∧ F' = F.set k b) ∨ (¬ (k < l.length ∧ at_ l k = v) ∧ F' = F))

set_option maxRecDepth 100000 in
set_option maxHeartbeats 1000000 in
theorem setLazy21 (B bn : Nat) (an : Option Addr) (cn : Nat) (lz un ow : Value) (l : List Int) (F : List Bool) (v : Int) (b : Bool) (w : World) (hB : B ≤ bn) (hO : Off an bn) (hN : Nd w bn (.slice an l.length cn) lz un ow) (hr : Row w an l) (ha : Asc l) (hl : l.length ≤ 1000000)
    (hF : F.length = l.length) (hL : Lz w B bn an lz F) :
    Calls Try.prog 21 #[.pointer (some ⟨bn, 0, none⟩), .int .i64 v, .bool b] w fun e w' => Done e ∧ Below B w w' ∧ ∃ (lz' : Value) (F' : List Bool), setF l F v b F' ∧ Nd w' bn (.slice an l.length cn) lz' un ow ∧ Lz w' B bn an lz' F' ∧ Row w' an l ∧ KeptBut w w' bn lz ∧ LzNext w lz lz' := by
  have c10 := hN.c10
  go_enter Try.func21, Try.ntmps21
  go_wp2_with fail
  refine (place26 bn an cn lz un ow l v w hN hr ha hl).mono ?_
  rintro e w1 ⟨⟨k, he, hFd⟩, hw⟩
  rw [hw]
  clear hw w1
  have HA : Hid (Asc l) := ha
  have HFd : Hid (Found l v k) := hFd
  have HL : Hid (Lz w B bn an lz F) := hL
  have HN : Hid (Nd w bn (.slice an l.length cn) lz un ow) := hN
  clear ha hFd hL hN
  by_cases hd : k < l.length ∧ at_ l k = v
  · rw [decide_eq_true hd] at he
    subst he
    have HD : Hid (k < l.length ∧ at_ l k = v) := hd
    have hk := hd.1
    clear hd
    rcases HL.out with ⟨rfl, n, hn⟩ | ⟨g, rfl, hg1, hg2, hg3, hg4⟩
    · have hq33 := fun w => heq33 none 0 0 w
      have c9 := HN.out.c9
      cases b with
      | false =>
        go_wp2_with fail
        first | (refine bodyPost_ret (results_none rfl _ _ _) rfl ?_) | ((try simp only [Exit.inBlock, Exit.then]); refine bodyPost_end (results_none rfl _ _ _) rfl ?_)
        refine ⟨rfl, Below.refl _ _, _, F, ⟨k, HFd.out, Or.inl ⟨HD.out.1, HD.out.2, ?_⟩⟩, HN.out, HL.out, hr, KeptBut.refl _ _ _, Or.inl rfl⟩
        rw [hn, List.set_replicate_self]
      | true =>
        go_wp2_with ((with_reducible refine stopN ?_ ?_); · exact rfl)
        refine Stop.go (wpList_make33 _ _ (by rfl) (by rfl) l.length (by omega) (by rfl) (by rfl) ?_)
        intro g w1 hg hFl hb1
        have hN1 := HN.out.below hb1
        have hlt := HN.out.lt
        go_wp2_with ((with_reducible refine stopN ?_ ?_); · exact rfl)
        refine Stop.go (wpList_store1 sz33 _ _ (by rfl) (by rfl) (by rfl) rfl rfl rfl hN1.c10 (hN1.frozen 10) ?_)
        intro w2 hw2
        have ht2 : Turned w1 w2 bn := by rw [hw2]; exact setCell_turned ..
        have hN2 : Nd w2 bn (.slice an l.length cn) (.slice (some ⟨g, 0, none⟩) l.length l.length) un ow := by rw [hw2]; exact hN1.set10 _
        have hF2 := hFl.turned ht2 (by omega)
        have x2 := hN2.c10
        have i1 : (0 : Int) ≤ (k : Int) := by omega
        have i2 : (k : Int) < (l.length : Int) := by omega
        have HKB : Hid (∀ k', k' < w.heap.size → k' ≠ bn → w2.heap[k']? = w.heap[k']?) := fun k' h1' h2' => (ht2.block k' h2').trans (hb1.block k' h1')
        have hsz2 : w.heap.size ≤ w2.heap.size := by rw [ht2.size]; exact hb1.size
        have HB2 : Hid (Below B w w2) := (hb1.mono (by omega)).trans (ht2.below hB)
        have HN2 : Hid (Nd w2 bn (.slice an l.length cn) (.slice (some ⟨g, 0, none⟩) l.length l.length) un ow) := hN2
        have HF2 : Hid (Flags w2 g (List.replicate l.length false)) := hF2
        clear hw2 hb1 hN1 hFl ht2 hN2 hF2
        go_wp2_with ((with_reducible refine stopN ?_ ?_); · exact rfl)
        refine Stop.go (wpList_store1 (v := .bool true) (b := g) (i := k) sz4 _ _ (by rfl) (by rfl) (by rfl) (by rfl) rfl rfl (u := .bool (bt_ (List.replicate l.length false) k)) (by simpa using HF2.out.cell (i := k) (by simpa using hk)) (by simpa using HF2.out.frozen k) ?_)
        intro w3 hw3
        have ht3 : Turned w2 w3 g := by rw [hw3]; exact setCell_turned ..
        have hF3 : Flags w3 g ((List.replicate l.length false).set k true) := by rw [hw3]; exact HF2.out.set (i := k) (by simpa using hk) true
        have hN3 := HN2.out.turned ht3 (by omega)
        have hBB : Below B w w3 := HB2.out.trans (ht3.below (by omega))
        have hKK : KeptBut w w3 bn (.slice none 0 0) := ⟨by rw [ht3.size]; exact hsz2, fun k' h1' h2' _ => (ht3.block k' (by omega)).trans (HKB.out k' h1' h2')⟩
        clear hw3
        go_wp2_with fail
        first | (refine bodyPost_ret (results_none rfl _ _ _) rfl ?_) | ((try simp only [Exit.inBlock, Exit.then]); refine bodyPost_end (results_none rfl _ _ _) rfl ?_)
        have hnl : n = l.length := by rw [hn, List.length_replicate] at hF; exact hF
        refine ⟨rfl, hBB, _, F.set k true, ⟨k, HFd.out, Or.inl ⟨HD.out.1, HD.out.2, by rw [hn]⟩⟩, hN3, Or.inr ⟨g, ?_, by omega, by omega, fun x hx => ?_, ?_⟩, hKK.row hr hO (fun g hg => by cases hg), hKK, Or.inr ⟨g, rfl, hg⟩⟩
        · rw [List.length_set, hF]
        · have := hO x hx
          intro he
          obtain ⟨b', off, e', c⟩ := hr k hk
          rw [hx] at e'
          have hlt' := World.block_lt_of_cell? _ _ c
          obtain rfl : x = ⟨b', off, none⟩ := by simpa using e'
          have hlt'' : b' < w.heap.size := hlt'
          have he' : b' = g := he
          omega
        · rw [hn, hnl]; exact hF3
    · have hq33 := fun w => heq33 (some ⟨g, 0, none⟩) F.length F.length w
      have i1 : (0 : Int) ≤ (k : Int) := by omega
      have i2 : (k : Int) < (F.length : Int) := by omega
      have HFF : Hid (F.length = l.length) := hF
      have HG : Hid (Flags w g F) := hg4
      clear hg4 hF
      go_wp2_with ((with_reducible refine stopN ?_ ?_); · exact rfl)
      refine Stop.go (wpList_store1 (v := .bool b) (b := g) (i := k) sz4 _ _ (by rfl) (by rfl) (by rfl) (by rfl) rfl rfl (u := .bool (bt_ F k)) (by simpa using HG.out.cell (i := k) (by have := HFF.out; omega)) (by simpa using HG.out.frozen k) ?_)
      intro w3 hw3
      have ht3 : Turned w w3 g := by rw [hw3]; exact setCell_turned ..
      have hF3 : Flags w3 g (F.set k b) := by rw [hw3]; exact HG.out.set (i := k) (by have := HFF.out; omega) b
      have hN3 := HN.out.turned ht3 (Ne.symm hg2)
      clear hw3
      go_wp2_with fail
      first | (refine bodyPost_ret (results_none rfl _ _ _) rfl ?_) | ((try simp only [Exit.inBlock, Exit.then]); refine bodyPost_end (results_none rfl _ _ _) rfl ?_)
      exact ⟨rfl, ht3.below hg1, _, F.set k b, ⟨k, HFd.out, Or.inl ⟨HD.out.1, HD.out.2, rfl⟩⟩, hN3, Or.inr ⟨g, by rw [List.length_set], hg1, hg2, hg3, hF3⟩, ht3.row hr hg3, ⟨Nat.le_of_eq ht3.size.symm, fun k' _ _ hne => ht3.block k' (fun h => hne (by rw [h]; rfl))⟩, Or.inl rfl⟩
  · rw [decide_eq_false hd] at he
    subst he
    have HD : Hid (¬ (k < l.length ∧ at_ l k = v)) := hd
    clear hd
    go_wp2_with fail
    first | (refine bodyPost_ret (results_none rfl _ _ _) rfl ?_) | ((try simp only [Exit.inBlock, Exit.then]); refine bodyPost_end (results_none rfl _ _ _) rfl ?_)
    exact ⟨rfl, Below.refl _ _, lz, F, ⟨k, HFd.out, Or.inr ⟨HD.out, rfl⟩⟩, HN.out, HL.out, hr, KeptBut.refl _ _ _, Or.inl rfl⟩

set_option maxHeartbeats 400000 in
theorem lazyAt31 (B bn : Nat) (an : Option Addr) (nb lz un ow : Value) (F : List Bool) (k : Nat) (w : World) (hN : Nd w bn nb lz un ow) (hL : Lz w B bn an lz F) (hk : k < F.length) :
    Calls Try.prog 31 #[.pointer (some ⟨bn, 0, none⟩), .int .i64 k] w fun e w' => e = .returned (.bool (bt_ F k)) ∧ w' = w := by
  have c10 := hN.c10
  have i1 : (0 : Int) ≤ (k : Int) := by omega
  have i2 : (k : Int) < (F.length : Int) := by omega
  rcases hL with ⟨rfl, n, hn⟩ | ⟨g, rfl, hg1, hg2, hg3, hg4⟩
  · have hb : bt_ F k = false := by
      have : k < n := by rw [hn] at hk; simpa using hk
      rw [hn]; simp [bt_, this]
    have hq33 : ∀ w, (binOp .neq 33 (.slice none 0 0) (.slice none 0 0)).run Try.prog w = .ok (.bool false) w := fun w => by kernel_rfl
    rw [hb]
    clear hn hb
    go_enter Try.func31, Try.ntmps31
    go_wp2_with fail
    go_ret
    exact ⟨rfl, rfl⟩
  · have x3 := hg4.cell hk
    go_enter Try.func31, Try.ntmps31
    go_wp2_with fail
    go_ret
    exact ⟨rfl, rfl⟩

/-- Is v a lazy peer? -/
def IsLazy (l : List Int) (F : List Bool) (v : Int) : Prop := ∃ k, Found l v k ∧ k < l.length ∧ at_ l k = v ∧ bt_ F k = true

set_option maxHeartbeats 400000 in
theorem isLazy27 (B bn : Nat) (an : Option Addr) (cn : Nat) (lz un ow : Value) (l : List Int) (F : List Bool) (v : Int) (w : World) (hN : Nd w bn (.slice an l.length cn) lz un ow) (hr : Row w an l) (ha : Asc l) (hl : l.length ≤ 1000000)
    (hF : F.length = l.length) (hL : Lz w B bn an lz F) :
    Calls Try.prog 27 #[.pointer (some ⟨bn, 0, none⟩), .int .i64 v] w fun e w' => Says (IsLazy l F v) e ∧ w' = w := by
  go_enter Try.func27, Try.ntmps27
  go_wp2_with fail
  refine (place26 bn an cn lz un ow l v w hN hr ha hl).mono ?_
  rintro e w1 ⟨⟨k, he, hFd⟩, hw⟩
  rw [hw]
  clear hw w1
  have HFd : Hid (Found l v k) := hFd
  have HN : Hid (Nd w bn (.slice an l.length cn) lz un ow) := hN
  have HL : Hid (Lz w B bn an lz F) := hL
  have HFF : Hid (F.length = l.length) := hF
  clear hFd hN hL ha hr hF
  by_cases hd : k < l.length ∧ at_ l k = v
  · rw [decide_eq_true hd] at he
    subst he
    have HD : Hid (k < l.length ∧ at_ l k = v) := hd
    clear hd
    go_wp2_with fail
    refine (lazyAt31 B bn an _ lz un ow F k w HN.out HL.out (by have := HFF.out; have := HD.out.1; omega)).mono ?_
    rintro e w1 ⟨rfl, hw⟩
    rw [hw]
    clear hw w1
    go_wp2_with fail
    go_ret
    refine ⟨Says.is ⟨fun h => ⟨k, HFd.out, HD.out.1, HD.out.2, h⟩, fun ⟨k', h1, _, _, h4⟩ => ?_⟩, rfl⟩
    rw [HFd.out.unique h1]; exact h4
  · rw [decide_eq_false hd] at he
    subst he
    have HD : Hid (¬ (k < l.length ∧ at_ l k = v)) := hd
    clear hd
    go_wp2_with fail
    go_ret
    exact ⟨Says.no fun ⟨k', h1, h2, h3, _⟩ => HD.out (by rw [HFd.out.unique h1]; exact ⟨h2, h3⟩), rfl⟩

set_option maxHeartbeats 400000 in
theorem setLazy9 (B bn : Nat) (an : Option Addr) (cn : Nat) (lz un ow : Value) (l : List Int) (F : List Bool) (v : Int) (b : Bool) (w : World) (hB : B ≤ bn) (hO : Off an bn) (hN : Nd w bn (.slice an l.length cn) lz un ow) (hr : Row w an l) (ha : Asc l) (hl : l.length ≤ 1000000)
    (hF : F.length = l.length) (hL : Lz w B bn an lz F) :
    Calls Try.prog 9 #[.pointer (some ⟨bn, 0, none⟩), .int .i64 v, .bool b] w fun e w' => Done e ∧ Below B w w' ∧ ∃ (lz' : Value) (F' : List Bool), setF l F v b F' ∧ Nd w' bn (.slice an l.length cn) lz' un ow ∧ Lz w' B bn an lz' F' ∧ Row w' an l ∧ KeptBut w w' bn lz ∧ LzNext w lz lz' := by
  go_enter Try.func9, Try.ntmps9
  go_wp2_with fail
  refine (setLazy21 B bn an cn lz un ow l F v b w hB hO hN hr ha hl hF hL).mono ?_
  rintro e w1 ⟨he, h1⟩
  obtain rfl : e = .returned (.tuple #[]) := he
  have H1 : Hid (Below B w w1 ∧ _) := h1
  clear h1
  go_wp2_with fail
  first | (refine bodyPost_ret (results_none rfl _ _ _) rfl ?_) | ((try simp only [Exit.inBlock, Exit.then]); refine bodyPost_end (results_none rfl _ _ _) rfl ?_)
  exact ⟨rfl, H1.out⟩

set_option maxHeartbeats 400000 in
theorem setUn10 (bn : Nat) (nb lz un ow : Value) (x : Option Addr) (n c : Nat) (w : World) (hN : Nd w bn nb lz un ow) :
    Calls Try.prog 10 #[.pointer (some ⟨bn, 0, none⟩), .slice x n c] w fun e w' => Done e ∧ Turned w w' bn ∧ Nd w' bn nb lz (.slice x n c) ow := by
  go_enter Try.func10, Try.ntmps10
  go_wp2_with ((with_reducible refine stopN ?_ ?_); · exact rfl)
  refine Stop.go (wpList_store1 (v := .slice x n c) (b := bn) (i := 15) sz22 _ _ (by rfl) (by rfl) (by rfl) (by rfl) rfl rfl hN.c15 (hN.frozen 15) ?_)
  intro w1 hw1
  have H1 : Hid (Turned w w1 bn ∧ Nd w1 bn nb lz (.slice x n c) ow) := by rw [hw1]; exact ⟨setCell_turned .., hN.set15 _⟩
  clear hw1
  go_wp2_with fail
  first | (refine bodyPost_ret (results_none rfl _ _ _) rfl ?_) | ((try simp only [Exit.inBlock, Exit.then]); refine bodyPost_end (results_none rfl _ _ _) rfl ?_)
  exact ⟨rfl, H1.out⟩

theorem lazy15 (bn : Nat) (nb lz un ow : Value) (w : World) (hN : Nd w bn nb lz un ow) :
    Calls Try.prog 15 #[.pointer (some ⟨bn, 0, none⟩)] w fun e w' => e = .returned lz ∧ w' = w := by
  have c10 := hN.c10
  go_enter Try.func15, Try.ntmps15
  go_wp2_with fail
  go_ret
  exact ⟨rfl, rfl⟩

end Go.Proofs.Qxb6612866a
