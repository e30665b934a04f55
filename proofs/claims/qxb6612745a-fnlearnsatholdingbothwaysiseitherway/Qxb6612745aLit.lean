/- A tree that the law lays: makeMap, insert. And what its entries' slices own. -/
import Derived.Test.Qxb6612745aTree
namespace Go.Proofs.Qxb6612745a
open Go.RowKit

theorem findNow_snoc (q : Value) (x : MapEntry) : ∀ (l : List MapEntry) (i : Nat), Instr.findNow .string q (l ++ [x]) i =
    match Instr.findNow .string q l i with | some none => Instr.findNow .string q [x] (i + l.length) | r => r
  | [], i => by simp [Instr.findNow]
  | e :: l, i => by
    simp only [List.cons_append, Instr.findNow]
    cases h : Instr.sameNow .string q e.key with
    | none => rfl
    | some b =>
      cases b with
      | true => rfl
      | false =>
        simp only []
        rw [findNow_snoc q x l (i + 1)]
        simp only [Instr.findNow, List.length_cons]
        rw [show i + 1 + l.length = i + (l.length + 1) by omega]

theorem beq_bytes (s p : ByteArray) : (s == p) = decide (s = p) := by
  by_cases h : s = p
  · rw [decide_eq_true h]; exact (MapKept.bytes_beq s p).2 h
  · rw [decide_eq_false h]
    cases hb : (s == p) with
    | false => rfl
    | true => exact absurd ((MapKept.bytes_beq s p).1 hb) h

theorem Maps.put {w : World} {m : Nat} {f : ByteArray → Option Value} (h : Maps w m f) {p : ByteArray} (hf : f p = none) (v : Value) :
    ∃ w', (Instr.mapUpdate 36 (.map (some m)) (.string p) v).run Try.prog w = .ok () w' ∧ Maps w' m (fun s => if s = p then some v else f s) ∧ Turned w w' m := by
  obtain ⟨es, clock, hm, hs⟩ := h
  have hp := hs p
  rw [hf] at hp
  have hfind : Instr.findNow .string (.string p) es.toList 0 = some none := by
    cases hq : Instr.findNow .string (.string p) es.toList 0 with
    | none => rw [hq] at hp; cases hp
    | some r =>
      cases r with
      | none => rfl
      | some r => rw [hq] at hp; simp at hp
  have h1 := MapKept.run_getObj_map (P := Try.prog) hm
  have h2 := MapKept.run_checkKey (P := Try.prog) (w := w) Try.underlying9 (k := .string p) trivial false 9999
  have h3 := MapKept.run_findKey (P := Try.prog) (w := w) Try.underlying9 hfind
  have h4 := MapKept.run_setObj_map (P := Try.prog) (.map (es.push ⟨.string p, v, clock⟩) (clock + 1)) hm
  refine ⟨{ w with heap := w.heap.setIfInBounds m (.map (es.push ⟨.string p, v, clock⟩) (clock + 1)) }, ?_, ⟨es.push ⟨.string p, v, clock⟩, clock + 1, ?_, fun s => ?_⟩, rfl, rfl, rfl, by simp, fun k hk => ?_⟩
  · simp [Instr.mapUpdate, run_underlying Try.underlying36, h1, h2, h3, h4]
  · show (w.heap.setIfInBounds m _)[m]? = _
    rw [Array.getElem?_setIfInBounds]
    rcases Nat.lt_or_ge m w.heap.size with hlt | hge
    · simp [hlt]
    · rw [Array.getElem?_eq_none hge] at hm; cases hm
  · have hq := hs s
    rw [Array.toList_push, findNow_snoc]
    by_cases he : s = p
    · subst he
      rw [hfind]
      simp [Instr.findNow, Instr.sameNow, beq_bytes]
    · cases hr : Instr.findNow .string (.string s) es.toList 0 with
      | none => rw [hr] at hq; cases hq
      | some r =>
        rw [hr] at hq
        cases r with
        | none =>
          simp only [Option.map_some, Option.map_none, Option.some.injEq] at hq
          simp [Instr.findNow, Instr.sameNow, beq_bytes, he, ← hq]
        | some r => simpa [he] using hq
  · show (w.heap.setIfInBounds m _)[k]? = _
    rw [Array.getElem?_setIfInBounds_ne (fun e => hk e.symm)]

/-- A row of pairs does not lie in a map's block. -/
theorem Maps.row {w w' : World} {m : Nat} {f : ByteArray → Option Value} {a : Option Addr} {l : List (ByteArray × Int)} (h : Maps w m f) (ht : Turned w w' m) (hr : Row w a l) : Row w' a l := by
  obtain ⟨es, clock, hm, _⟩ := h
  intro i hi
  obtain ⟨g, off, e, c0, c1⟩ := hr i hi
  have hg : g ≠ m := by rintro rfl; simp [World.cell?, hm] at c0
  have hb := ht.block g hg
  exact ⟨g, off, e, (World.cell?_of_block (w := w) hb).trans c0, (World.cell?_of_block (w := w) hb).trans c1⟩

theorem Maps.congr {w : World} {m : Nat} {f g : ByteArray → Option Value} (h : Maps w m f) (he : ∀ s, f s = g s) : Maps w m g := by
  obtain ⟨es, clock, hm, hs⟩ := h
  exact ⟨es, clock, hm, fun s => by rw [hs s, he s]⟩

/-- The entries of a tree that is laid in a block of its own, one behind the other: as rules for a walk whose world is written out. -/
theorem run_ins1d (w : World) (n : Nat) (hn : w.heap.size = n) (p : ByteArray) (v : Value) :
    (Instr.mapUpdate 36 (.map (some n)) (.string p) v).run Try.prog (w.alloc (.map #[] 0)).drew = .ok () (w.alloc (.map #[⟨.string p, v, 0⟩] 1)).drew :=
  run_insert1 w.drew n hn p v

theorem run_ins2 (w : World) (n : Nat) (hn : w.heap.size = n) (k p : ByteArray) (x v : Value) (hne : p ≠ k) :
    (Instr.mapUpdate 36 (.map (some n)) (.string p) v).run Try.prog (w.alloc (.map #[⟨.string k, x, 0⟩] 1)) = .ok () (w.alloc (.map #[⟨.string k, x, 0⟩, ⟨.string p, v, 1⟩] 2)) := by
  subst hn
  have hm := heap_alloc_new w (.map #[⟨.string k, x, 0⟩] 1)
  have h1 := MapKept.run_getObj_map (P := Try.prog) hm
  have h2 := MapKept.run_checkKey (P := Try.prog) (w := w.alloc (.map #[⟨.string k, x, 0⟩] 1)) Try.underlying9 (k := .string p) trivial false 9999
  have h3 := MapKept.run_findKey (P := Try.prog) (w := w.alloc (.map #[⟨.string k, x, 0⟩] 1)) (k := .string p) (l := [⟨.string k, x, 0⟩]) (a := none) Try.underlying9 (by simp [Instr.findNow, Instr.sameNow, beq_bytes, hne])
  have h4 := MapKept.run_setObj_map (P := Try.prog) (.map #[⟨.string k, x, 0⟩, ⟨.string p, v, 1⟩] 2) hm
  simp only [Instr.mapUpdate, Sem.run_bind, run_underlying Try.underlying36, Result.andThen_ok, h1, h2, h3]
  have h5 : ({ w.alloc (.map #[⟨.string k, x, 0⟩] 1) with heap := (w.alloc (.map #[⟨.string k, x, 0⟩] 1)).heap.setIfInBounds w.heap.size (.map #[⟨.string k, x, 0⟩, ⟨.string p, v, 1⟩] 2) } : World) = w.alloc (.map #[⟨.string k, x, 0⟩, ⟨.string p, v, 1⟩] 2) := by
    show ({ w with heap := (w.heap.push _).setIfInBounds w.heap.size _ } : World) = { w with heap := w.heap.push _ }
    rw [push_set]
  rw [h5] at h4
  simpa using h4

theorem maps_two (w : World) (k p : ByteArray) (x v : Value) : Maps (w.alloc (.map #[⟨.string k, x, 0⟩, ⟨.string p, v, 1⟩] 2)) w.heap.size (fun s => if s = k then some x else if s = p then some v else none) := by
  refine ⟨_, _, heap_alloc_new _ _, fun s => ?_⟩
  by_cases h : s = k
  · subst h
    simp [Instr.findNow, Instr.sameNow, beq_bytes]
  · by_cases h' : s = p
    · subst h'
      simp [Instr.findNow, Instr.sameNow, beq_bytes, h]
    · simp [Instr.findNow, Instr.sameNow, beq_bytes, h, h']

theorem Ent.all {w : World} {b : Nat} {k : Int} {c m s d ds r : Sl} (h : Ent w b (ent k c m s d ds r)) :
    w.cell? ⟨b, 0, none⟩ = some (.int .u8 k) ∧ w.cell? ⟨b, 1, none⟩ = some (.slice c.a c.n c.cap) ∧ w.cell? ⟨b, 2, none⟩ = some (.slice m.a m.n m.cap) ∧ w.cell? ⟨b, 3, none⟩ = some (.slice s.a s.n s.cap) ∧ w.cell? ⟨b, 4, none⟩ = some (.slice d.a d.n d.cap) ∧ w.cell? ⟨b, 5, none⟩ = some (.slice ds.a ds.n ds.cap) ∧ w.cell? ⟨b, 6, none⟩ = some (.string ⟨#[]⟩) ∧ w.cell? ⟨b, 7, none⟩ = some (.int .u64 0) ∧ w.cell? ⟨b, 8, none⟩ = some (.int .i64 0) ∧ w.cell? ⟨b, 9, none⟩ = some (.string ⟨#[]⟩) ∧ w.cell? ⟨b, 10, none⟩ = some (.string ⟨#[]⟩) ∧ w.cell? ⟨b, 11, none⟩ = some (.int .u64 0) ∧ w.cell? ⟨b, 12, none⟩ = some (.int .i64 0) ∧ w.cell? ⟨b, 13, none⟩ = some (.string ⟨#[]⟩) ∧ w.cell? ⟨b, 14, none⟩ = some (.slice none 0 0) ∧ w.cell? ⟨b, 15, none⟩ = some (.string ⟨#[]⟩) ∧ w.cell? ⟨b, 16, none⟩ = some (.int .u64 0) ∧ w.cell? ⟨b, 17, none⟩ = some (.int .i64 0) ∧ w.cell? ⟨b, 18, none⟩ = some (.string ⟨#[]⟩) ∧ w.cell? ⟨b, 19, none⟩ = some (.slice r.a r.n r.cap) ∧ w.cell? ⟨b, 20, none⟩ = some (.slice none 0 0) :=
  ⟨h.cell 0, h.cell 1, h.cell 2, h.cell 3, h.cell 4, h.cell 5, h.cell 6, h.cell 7, h.cell 8, h.cell 9, h.cell 10, h.cell 11, h.cell 12, h.cell 13, h.cell 14, h.cell 15, h.cell 16, h.cell 17, h.cell 18, h.cell 19, h.cell 20⟩

section Laws
variable {ops : Array Oper} {rest : List Oper} {op : Oper} {a : Act} {w : World} {Q : Exit → Act → World → Prop}

/-- A new tree, with no entry. -/
theorem wpList_makeTree (ho : op.op = .makeMap 36 none) (hgd : op.guard = none)
    (h : ∀ b w', w.heap.size ≤ b → b < w'.heap.size → Maps w' b (fun _ => none) → Below w.heap.size w w' → wpList Try.prog ops Q rest (a.put op.dst (.map (some b))) w') : wpList Try.prog ops Q (op :: rest) a w := by
  refine wpList_plain hgd fun K hK => ?_
  unfold Oper.wp execOp
  simp only [ho, Sem.run_bind]
  exact hK _ _ (h _ _ (Nat.le_refl _) (by simp) (maps_made w) (below_alloc w _))

/-- An entry more. -/
theorem wpList_insert (x y z : Operand) (ho : op.op = .insert 36 x y z) (hgd : op.guard = none) (m : Nat) (p : ByteArray) (v : Value) (f : ByteArray → Option Value) (hx : a.eval x = .map (some m)) (hy : a.eval y = .string p) (hz : a.eval z = v)
    (hm : Maps w m f) (hf : f p = none) (h : ∀ w', Maps w' m (fun s => if s = p then some v else f s) → Turned w w' m → wpList Try.prog ops Q rest (a.put op.dst undef) w') : wpList Try.prog ops Q (op :: rest) a w := by
  obtain ⟨w', hr, h1, h2⟩ := hm.put hf v
  refine wpList_plain hgd fun K hK => ?_
  unfold Oper.wp execOp
  simp only [ho, hx, hy, hz, Sem.run_bind, hr, Result.andThen_ok]
  exact hK _ _ (h _ h1 h2)

/-- The same two as steps of a region that draws its order. -/
theorem step_makeTree {K : Act → World → Prop} {E : Prop} (ho : op.op = .makeMap 36 none) (hgd : op.guard = none)
    (h : ∀ b w', w.heap.size ≤ b → b < w'.heap.size → Maps w' b (fun _ => none) → Below w.heap.size w w' → K (a.put op.dst (.map (some b))) w') :
    if Region.wanted op (yielded ops a.tmps) = true then Oper.wp Try.prog op a w K Q else E := by
  rw [if_pos (by simp [Region.wanted, hgd])]
  unfold Oper.wp execOp
  simp only [ho, Sem.run_bind]
  exact h _ _ (Nat.le_refl _) (by simp) (maps_made w) (below_alloc w _)

theorem step_insert {K : Act → World → Prop} {E : Prop} (x y z : Operand) (ho : op.op = .insert 36 x y z) (hgd : op.guard = none) (m : Nat) (p : ByteArray) (v : Value) (f : ByteArray → Option Value) (hx : a.eval x = .map (some m)) (hy : a.eval y = .string p) (hz : a.eval z = v)
    (hm : Maps w m f) (hf : f p = none) (h : ∀ w', Maps w' m (fun s => if s = p then some v else f s) → Turned w w' m → K (a.put op.dst undef) w') :
    if Region.wanted op (yielded ops a.tmps) = true then Oper.wp Try.prog op a w K Q else E := by
  obtain ⟨w', hr, h1, h2⟩ := hm.put hf v
  rw [if_pos (by simp [Region.wanted, hgd])]
  unfold Oper.wp execOp
  simp only [ho, hx, hy, hz, Sem.run_bind, hr, Result.andThen_ok]
  exact h _ h1 h2

/-- The operations at which the walk of a law is to stand. -/
def treeOp : Op → Bool
  | .alloc 34 => true
  | .store 34 _ _ => true
  | .load 34 _ => true
  | .makeMap 36 _ => true
  | .insert 36 _ _ _ => true
  | _ => false
theorem stopTree (_ho : treeOp op.op = true) (h : Stop (wpList Try.prog ops Q (op :: rest) a w)) : wpList Try.prog ops Q (op :: rest) a w := h
end Laws

end Go.Proofs.Qxb6612745a
