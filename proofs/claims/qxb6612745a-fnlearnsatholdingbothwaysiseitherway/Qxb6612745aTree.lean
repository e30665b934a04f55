/- Trees: maps from paths to entries; the entries' cells; At (41), above (46), Beneath (44), Below (47). -/
import Derived.Test.Qxb6612745aPath
import Derived.Test.Qxb6612745aLeq
import Derived.RegionTactic
import Derived.BigRegion
import Derived.Deep.MidRow
import Derived.Maps.OwnOps
namespace Go.Proofs.Qxb6612745a
open Go.RowKit

/-- A slice, as a value: its address, length, capacity. -/
structure Sl where
  a : Option Addr
  n : Nat
  cap : Nat

/-- The nil slice. -/
def Sl.nil : Sl := ⟨none, 0, 0⟩

/-- An entry: its kind, and the times C, M, S, D, DS, R; all else is zero. -/
def ent (k : Int) (c m s d ds r : Sl) : Array Value :=
  #[.int .u8 k, .slice c.a c.n c.cap, .slice m.a m.n m.cap, .slice s.a s.n s.cap, .slice d.a d.n d.cap, .slice ds.a ds.n ds.cap,
    .string ⟨#[]⟩, .int .u64 0, .int .i64 0, .string ⟨#[]⟩, .string ⟨#[]⟩, .int .u64 0, .int .i64 0, .string ⟨#[]⟩, .slice none 0 0,
    .string ⟨#[]⟩, .int .u64 0, .int .i64 0, .string ⟨#[]⟩, .slice r.a r.n r.cap, .slice none 0 0]

theorem zero34 : (Try.prog.info? 34).map (fun i => (i.zero, i.size)) = some (some (.agg (ent 0 Sl.nil Sl.nil Sl.nil Sl.nil Sl.nil Sl.nil)), 21) := by kernel_rfl

theorem zeroV34 (w : World) : (zeroValue 34).run Try.prog w = .ok (.agg (ent 0 Sl.nil Sl.nil Sl.nil Sl.nil Sl.nil Sl.nil)) w := by kernel_rfl

/-- Block m is a map whose entry at each key is as f says. -/
def Maps (w : World) (m : Nat) (f : ByteArray → Option Value) : Prop :=
  ∃ es clock, w.heap[m]? = some (.map es clock) ∧ ∀ s, (Instr.findNow .string (.string s) es.toList 0).map (·.map (·.2)) = some (f s)

theorem Maps.below {w w' : World} {m : Nat} {f : ByteArray → Option Value} (h : Maps w m f) (hb : Below w.heap.size w w') : Maps w' m f := by
  obtain ⟨es, clock, hm, hf⟩ := h
  refine ⟨es, clock, ?_, hf⟩
  rw [hb.block m ?_]
  · exact hm
  · rcases Nat.lt_or_ge m w.heap.size with h | h
    · exact h
    · rw [Array.getElem?_eq_none h] at hm; cases hm

/-- The zero entry. -/
def ent0 : Array Value := ent 0 Sl.nil Sl.nil Sl.nil Sl.nil Sl.nil Sl.nil

theorem Maps.look {w : World} {m : Nat} {f : ByteArray → Option Value} (h : Maps w m f) (s : ByteArray) (b : Bool) :
    (Instr.lookup 36 (.map (some m)) (.string s) b).run Try.prog w = .ok (if b then .tuple #[(f s).getD (.agg ent0), .bool (f s).isSome] else (f s).getD (.agg ent0)) w := by
  obtain ⟨es, clock, hm, hf⟩ := h
  have hs := hf s
  cases hq : Instr.findNow .string (.string s) es.toList 0 with
  | none => rw [hq] at hs; cases hs
  | some r =>
    rw [hq] at hs
    simp only [Option.map_some, Option.some.injEq] at hs
    have h1 := MapKept.run_getObj_map (P := Try.prog) hm
    have h2 := MapKept.run_checkKey (P := Try.prog) (w := w) Try.underlying9 (k := .string s) trivial es.isEmpty 9999
    have h3 := MapKept.run_findKey (P := Try.prog) (w := w) Try.underlying9 hq
    cases r with
    | none =>
      simp only [Option.map_none] at hs
      rw [← hs]
      cases b <;> simp [Instr.lookup, run_underlying Try.underlying36, h1, h2, h3, ent0] <;> rfl
    | some r =>
      simp only [Option.map_some] at hs
      rw [← hs]
      cases b <;> simp [Instr.lookup, run_underlying Try.underlying36, h1, h2, h3]

theorem Maps.hit {w : World} {m : Nat} {f : ByteArray → Option Value} (h : Maps w m f) {s : ByteArray} {v : Value} (hs : f s = some v) :
    (Instr.lookup 36 (.map (some m)) (.string s) true).run Try.prog w = .ok (.tuple #[v, .bool true]) w := by
  rw [h.look s true, hs]; rfl

theorem Maps.miss {w : World} {m : Nat} {f : ByteArray → Option Value} (h : Maps w m f) {s : ByteArray} (hs : f s = none) :
    (Instr.lookup 36 (.map (some m)) (.string s) true).run Try.prog w = .ok (.tuple #[.agg ent0, .bool false]) w := by
  rw [h.look s true, hs]; rfl

/-- A map of no entry. -/
theorem maps_made (w : World) : Maps (w.alloc (.map #[] 0)) w.heap.size (fun _ => none) :=
  ⟨#[], 0, heap_alloc_new _ _, fun _ => rfl⟩

/-- A map of one entry. -/
theorem maps_one (w : World) (p : ByteArray) (v : Value) : Maps (w.alloc (.map #[⟨.string p, v, 0⟩] 1)) w.heap.size (fun s => if s = p then some v else none) := by
  refine ⟨_, _, heap_alloc_new _ _, fun s => ?_⟩
  by_cases h : s = p
  · subst h
    have : (s == s) = true := (MapKept.bytes_beq s s).2 rfl
    simp [Instr.findNow, Instr.sameNow, this]
  · have : (s == p) = false := by
      cases hb : (s == p) with
      | false => rfl
      | true => exact absurd ((MapKept.bytes_beq s p).1 hb) h
    simp [Instr.findNow, Instr.sameNow, this, h]

theorem push_set (h : Array Obj) (x y : Obj) : (h.push x).setIfInBounds h.size y = h.push y := by
  refine Array.ext_getElem? fun i => ?_
  by_cases hi : h.size = i
  · subst hi; simp
  · rw [Array.getElem?_setIfInBounds_ne hi, Array.getElem?_push, Array.getElem?_push, if_neg (fun e => hi e.symm), if_neg (fun e => hi e.symm)]

theorem run_insert1 (w : World) (n : Nat) (hn : w.heap.size = n) (p : ByteArray) (v : Value) :
    (Instr.mapUpdate 36 (.map (some n)) (.string p) v).run Try.prog (w.alloc (.map #[] 0)) = .ok () (w.alloc (.map #[⟨.string p, v, 0⟩] 1)) := by
  subst hn
  have hm := heap_alloc_new w (.map #[] 0)
  have h1 := MapKept.run_getObj_map (P := Try.prog) hm
  have h2 := MapKept.run_checkKey (P := Try.prog) (w := w.alloc (.map #[] 0)) Try.underlying9 (k := .string p) trivial false 9999
  have h3 := MapKept.run_findKey (P := Try.prog) (w := w.alloc (.map #[] 0)) (k := .string p) (l := []) Try.underlying9 rfl
  have h4 := MapKept.run_setObj_map (P := Try.prog) (.map #[⟨.string p, v, 0⟩] 1) hm
  simp only [Instr.mapUpdate, Sem.run_bind, run_underlying Try.underlying36, Result.andThen_ok, h1, h2, h3]
  have h5 : ({ w.alloc (.map #[] 0) with heap := (w.alloc (.map #[] 0)).heap.setIfInBounds w.heap.size (.map #[⟨.string p, v, 0⟩] 1) } : World) = w.alloc (.map #[⟨.string p, v, 0⟩] 1) := by
    show ({ w with heap := (w.heap.push _).setIfInBounds w.heap.size _ } : World) = { w with heap := w.heap.push _ }
    rw [push_set]
  rw [h5] at h4
  simpa using h4

/-! ### Whole entries: made, stored, loaded, handed back -/
/-- As many cells as an entry has, each the value of one cell. -/
def One (E : Array Value) : Prop := E.size = 21 ∧ E.all (·.oneCell') = true
theorem One.ent (k : Int) (c m s d ds r : Sl) : One (Qxb6612745a.ent k c m s d ds r) := ⟨rfl, by simp [Qxb6612745a.ent, Value.oneCell']⟩
theorem One.zero : One ent0 := One.ent ..

/-- Block b is a variable that holds the entry E. -/
def Ent (w : World) (b : Nat) (E : Array Value) : Prop := w.heap[b]? = some (.cells E 34 (0, 0)) ∧ One E

theorem Ent.lt {w : World} {b : Nat} {E : Array Value} (h : Ent w b E) : b < w.heap.size := by
  rcases Nat.lt_or_ge b w.heap.size with h' | h'
  · exact h'
  · have := h.1; rw [Array.getElem?_eq_none h'] at this; cases this

theorem Ent.below {w w' : World} {b : Nat} {E : Array Value} (h : Ent w b E) (hb : Below w.heap.size w w') : Ent w' b E :=
  ⟨(hb.block b h.lt).trans h.1, h.2⟩

theorem Ent.cell {w : World} {b : Nat} {E : Array Value} (h : Ent w b E) (i : Nat) : w.cell? ⟨b, i, none⟩ = E[i]? := by
  simp [World.cell?, h.1]
theorem Ent.frozen {w : World} {b : Nat} {E : Array Value} (h : Ent w b E) (i : Nat) : w.frozen? ⟨b, i, none⟩ = false := by
  simp [World.frozen?, h.1]

/-- w' is w but for block b. -/
structure Turned (w w' : World) (b : Nat) : Prop where
  os : w'.os = w.os
  tape : w'.tape = w.tape
  output : w'.output = w.output
  size : w'.heap.size = w.heap.size
  block : ∀ k, k ≠ b → w'.heap[k]? = w.heap[k]?

theorem Turned.below {w w' : World} {b B : Nat} (h : Turned w w' b) (hB : B ≤ b) : Below B w w' :=
  ⟨h.os, h.tape, h.output, Nat.le_of_eq h.size.symm, fun k hk => h.block k (by omega)⟩
theorem Turned.ent {w w' : World} {b b' : Nat} {E : Array Value} (h : Turned w w' b) (he : Ent w b' E) (hne : b' ≠ b) : Ent w' b' E :=
  ⟨(h.block b' hne).trans he.1, he.2⟩
theorem Turned.maps {w w' : World} {b m : Nat} {f : ByteArray → Option Value} (h : Turned w w' b) (he : Maps w m f) (hne : m ≠ b) : Maps w' m f := by
  obtain ⟨es, clock, hm, hf⟩ := he
  exact ⟨es, clock, (h.block m hne).trans hm, hf⟩
theorem Turned.row {w w' : World} {b : Nat} {a : Option Addr} {l : List (ByteArray × Int)} (h : Turned w w' b) (hr : Row w a l) (hne : ∀ x, a = some x → x.block ≠ b) : Row w' a l := by
  intro i hi
  obtain ⟨g, off, e, c0, c1⟩ := hr i hi
  have hg := h.block g (hne _ e)
  exact ⟨g, off, e, (World.cell?_of_block (w := w) hg).trans c0, (World.cell?_of_block (w := w) hg).trans c1⟩

theorem size34 : (Try.prog.info? 34).map (·.size) = some 21 := by kernel_rfl

theorem setRow_turned (w : World) (b : Nat) (E : Array Value) : Turned w (w.setRow b E) b :=
  ⟨rfl, rfl, rfl, by simp [World.setRow], fun k hk => by
    simp only [World.setRow, Array.getElem?_modify]
    rw [if_neg (fun e => hk e.symm)]⟩

section Laws
variable {ops : Array Oper} {rest : List Oper} {op : Oper} {a : Act} {w : World} {Q : Exit → Act → World → Prop}

/-- An entry goes whole into a variable that holds one. -/
theorem wpList_store_ent (x y : Operand) (ho : op.op = .store 34 x y) (hgd : op.guard = none) (b : Nat) (Z E : Array Value) (hx : a.eval x = .pointer (some ⟨b, 0, none⟩)) (hy : a.eval y = .agg E)
    (hZ : Ent w b Z) (hE : One E) (h : ∀ w', Ent w' b E → Turned w w' b → wpList Try.prog ops Q rest (a.put op.dst undef) w') : wpList Try.prog ops Q (op :: rest) a w := by
  refine wpList_plain hgd fun K hK => ?_
  have hs := run_storeVar_row (P := Try.prog) w b 34 34 Z E hZ.1 (by rw [size34, hE.1]) (by rw [hZ.2.1, hE.1]) hE.2
  unfold Oper.wp execOp
  simp only [ho, hx, hy, Instr.storeAt, Instr.sureAddr, Sem.run_bind, Sem.run_pure, Result.andThen_ok, hs]
  exact hK _ _ (h _ ⟨setRow_heap w b Z E 34 (0, 0) hZ.1, hE⟩ (setRow_turned w b E))

/-- An entry comes whole out of a variable. -/
theorem run_load_ent {b : Nat} {E : Array Value} (hE : Ent w b E) : (loadVar 34 ⟨b, 0, none⟩).run Try.prog w = .ok (.agg E) w := by
  have := run_loadVar_mid (P := Try.prog) w b 0 34 E.toList _ (fun j v hv => by
    have hc := hE.cell (0 + j)
    rw [hc]
    simpa using hv) Try.underlying34 rfl (by rw [size34, Array.length_toList, hE.2.1])
  simpa using this

theorem wpList_load_ent (x : Operand) (ho : op.op = .load 34 x) (hgd : op.guard = none) (b : Nat) (E : Array Value) (hx : a.eval x = .pointer (some ⟨b, 0, none⟩))
    (hE : Ent w b E) (h : wpList Try.prog ops Q rest (a.put op.dst (.agg E)) w) : wpList Try.prog ops Q (op :: rest) a w := by
  refine wpList_plain hgd fun K hK => ?_
  unfold Oper.wp execOp
  simp only [ho, hx, Instr.loadAt, Instr.sureAddr, Sem.run_bind, Sem.run_pure, Result.andThen_ok, run_load_ent hE]
  exact hK _ _ h

theorem ent_alloc (w : World) {E : Array Value} (hE : One E) : Ent (w.alloc (.cells E 34)) w.heap.size E := ⟨heap_alloc_new _ _, hE⟩
theorem below_alloc (w : World) (o : Obj) : Below w.heap.size w (w.alloc o) := (Below.refl _ _).alloc (Nat.le_refl _) o

/-- A new variable that holds the zero entry. -/
theorem wpList_alloc_ent (ho : op.op = .alloc 34) (hgd : op.guard = none)
    (h : ∀ b w', w.heap.size ≤ b → b < w'.heap.size → Ent w' b ent0 → Below w.heap.size w w' → wpList Try.prog ops Q rest (a.put op.dst (.pointer (some ⟨b, 0, none⟩))) w') : wpList Try.prog ops Q (op :: rest) a w := by
  refine wpList_plain hgd fun K hK => ?_
  unfold Oper.wp execOp
  simp only [ho, Sem.run_bind]
  exact hK _ _ (h _ _ (Nat.le_refl _) (by simp) (ent_alloc w One.zero) (below_alloc w _))

/-- A new variable that holds the entry E. -/
theorem wpList_box_ent (x : Operand) (ho : op.op = .box 34 x) (hgd : op.guard = none) (E : Array Value) (hx : a.eval x = .agg E) (hE : One E)
    (h : ∀ b w', w.heap.size ≤ b → b < w'.heap.size → Ent w' b E → Below w.heap.size w w' → wpList Try.prog ops Q rest (a.put op.dst (.pointer (some ⟨b, 0, none⟩))) w') : wpList Try.prog ops Q (op :: rest) a w := by
  refine wpList_plain hgd fun K hK => ?_
  have hr : (Instr.box 34 (.agg E)).run Try.prog w = .ok (.pointer (some ⟨w.heap.size, 0, none⟩)) (w.alloc (.cells E 34)) := rfl
  unfold Oper.wp execOp
  simp only [ho, hx, Sem.run_bind, hr]
  exact hK _ _ (h _ _ (Nat.le_refl _) (by simp) (ent_alloc w hE) (below_alloc w _))

/-- The result lies in a variable: it is handed back whole. -/
theorem results_ent {fn : Func} {t : Tmp} (h : fn.results = #[.cell t 34]) {tmps : Array Value} {b : Nat} {E : Array Value} (ht : tmps.getD t undef = .pointer (some ⟨b, 0, none⟩)) (hE : Ent w b E) :
    (results fn tmps).run Try.prog w = .ok (.agg E) w := by
  have ht' : tmps[t]?.getD undef = .pointer (some ⟨b, 0, none⟩) := by simpa using ht
  simp [results, h, ht', asAddr, run_load_ent hE]
/-- A look-up in a tree, with 'ok'. -/
theorem wpList_look_hit (x i : Operand) (ho : op.op = .lookup 36 x i true) (hgd : op.guard = none) (m : Nat) (s : ByteArray) (f : ByteArray → Option Value) (v : Value) (hx : a.eval x = .map (some m)) (hi : a.eval i = .string s)
    (hm : Maps w m f) (hf : f s = some v) (h : wpList Try.prog ops Q rest (a.put op.dst (.tuple #[v, .bool true])) w) : wpList Try.prog ops Q (op :: rest) a w := by
  refine wpList_plain hgd fun K hK => ?_
  unfold Oper.wp execOp
  simp only [ho, hx, hi, Sem.run_bind, Sem.run_pure, Result.andThen_ok, hm.hit hf]
  exact hK _ _ h

theorem wpList_look_miss (x i : Operand) (ho : op.op = .lookup 36 x i true) (hgd : op.guard = none) (m : Nat) (s : ByteArray) (f : ByteArray → Option Value) (hx : a.eval x = .map (some m)) (hi : a.eval i = .string s)
    (hm : Maps w m f) (hf : f s = none) (h : wpList Try.prog ops Q rest (a.put op.dst (.tuple #[.agg ent0, .bool false])) w) : wpList Try.prog ops Q (op :: rest) a w := by
  refine wpList_plain hgd fun K hK => ?_
  unfold Oper.wp execOp
  simp only [ho, hx, hi, Sem.run_bind, Sem.run_pure, Result.andThen_ok, hm.miss hf]
  exact hK _ _ h

/-- The operations at which the walk is to stand: whole entries, and look-ups in a tree. -/
def entOp : Op → Bool
  | .alloc 34 => true
  | .box 34 _ => true
  | .store 34 _ _ => true
  | .load 34 _ => true
  | .lookup 36 _ _ _ => true
  | _ => false

/-- A goal at which the walk stands. -/
def Stop (p : Prop) : Prop := p
theorem Stop.go {p : Prop} (h : p) : Stop p := h
theorem stop34 (_ho : entOp op.op = true) (h : Stop (wpList Try.prog ops Q (op :: rest) a w)) : wpList Try.prog ops Q (op :: rest) a w := h
end Laws

set_option maxRecDepth 100000 in
set_option maxHeartbeats 400000 in
theorem at41_hit (m : Nat) (f : ByteArray → Option Value) (p : ByteArray) (E : Array Value) (w : World) (hE : One E) (hm : Maps w m f) (hf : f p = some (.agg E)) :
    Calls Try.prog 41 #[.map (some m), .string p] w fun e w' => e = .returned (.agg E) ∧ Below w.heap.size w w' := by
  have HF : Hid (f p = some (.agg E)) := hf
  clear hf
  go_enter Try.func41, Try.ntmps41
  go_wp2_with ((with_reducible refine stop34 ?_ ?_); · exact rfl)
  refine Stop.go (wpList_alloc_ent (by rfl) (by rfl) ?_)
  intro b1 w1 lo1 hi1 he1 hb1
  have hm1 := hm.below hb1
  go_wp2_with ((with_reducible refine stop34 ?_ ?_); · exact rfl)
  refine Stop.go (wpList_look_hit _ _ (by rfl) (by rfl) m p f _ (by rfl) (by rfl) hm1 HF.out ?_)
  go_wp2_with ((with_reducible refine stop34 ?_ ?_); · exact rfl)
  refine Stop.go (wpList_alloc_ent (by rfl) (by rfl) ?_)
  intro b2 w2 lo2 hi2 he2 hb2
  have hne : b1 ≠ b2 := by omega
  have he1' := he1.below hb2
  go_wp2_with ((with_reducible refine stop34 ?_ ?_); · exact rfl)
  refine Stop.go (wpList_store_ent _ _ (by rfl) (by rfl) _ _ E (by rfl) (by rfl) he2 hE ?_)
  intro w3 he3 ht3
  have he13 := ht3.ent he1' hne
  go_wp2_with ((with_reducible refine stop34 ?_ ?_); · exact rfl)
  refine Stop.go (wpList_load_ent _ (by rfl) (by rfl) _ E (by rfl) he3 ?_)
  go_wp2_with ((with_reducible refine stop34 ?_ ?_); · exact rfl)
  refine Stop.go (wpList_store_ent _ _ (by rfl) (by rfl) _ _ E (by rfl) (by rfl) he13 hE ?_)
  intro w4 he4 ht4
  go_wp2_with ((with_reducible refine stop34 ?_ ?_); · exact rfl)
  exact bodyPost_ret (results_ent rfl rfl he4) rfl ⟨rfl, ((hb1.trans (hb2.mono (by omega))).trans (ht3.below (by omega))).trans (ht4.below lo1)⟩

end Go.Proofs.Qxb6612745a
