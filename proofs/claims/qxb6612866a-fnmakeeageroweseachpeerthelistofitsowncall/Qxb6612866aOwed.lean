/- The debts: a map from ids to rows; put (28), ZZowed (16), ZZowedLen (18). -/
import Derived.Test.Qxb6612866aMake
namespace Go.Proofs.Qxb6612866a
open Go.RowKit

/-- Block m is a map of n entries whose entry at each key is as f says. -/
def Maps (w : World) (m n : Nat) (f : Int → Option Value) : Prop :=
  ∃ es clock, w.heap[m]? = some (.map es clock) ∧ es.size = n ∧ ∀ s, (Instr.findNow (.int .i64) (.int .i64 s) es.toList 0).map (·.map (·.2)) = some (f s)

theorem Maps.lt {w : World} {m n : Nat} {f : Int → Option Value} (h : Maps w m n f) : m < w.heap.size := by
  obtain ⟨es, clock, hm, _⟩ := h
  rcases Nat.lt_or_ge m w.heap.size with h | h
  · exact h
  · rw [Array.getElem?_eq_none h] at hm; cases hm
theorem Maps.of_block {w w' : World} {m n : Nat} {f : Int → Option Value} (h : Maps w m n f) (hb : w'.heap[m]? = w.heap[m]?) : Maps w' m n f := by
  obtain ⟨es, clock, hm, hf⟩ := h
  exact ⟨es, clock, by rw [hb]; exact hm, hf⟩
theorem Maps.below {w w' : World} {m n : Nat} {f : Int → Option Value} (h : Maps w m n f) (hb : Below w.heap.size w w') : Maps w' m n f := h.of_block (hb.block m h.lt)

theorem Maps.look {w : World} {m n : Nat} {f : Int → Option Value} (h : Maps w m n f) (s : Int) :
    (Instr.lookup 54 (.map (some m)) (.int .i64 s) true).run Try.prog w = .ok (.tuple #[(f s).getD (.slice none 0 0), .bool (f s).isSome]) w := by
  obtain ⟨es, clock, hm, _, hf⟩ := h
  have hs := hf s
  cases hq : Instr.findNow (.int .i64) (.int .i64 s) es.toList 0 with
  | none => rw [hq] at hs; cases hs
  | some r =>
    rw [hq] at hs
    simp only [Option.map_some, Option.some.injEq] at hs
    have h1 := MapKept.run_getObj_map (P := Try.prog) hm
    have h2 := MapKept.run_checkKey (P := Try.prog) (w := w) Try.underlying27 (k := .int .i64 s) rfl es.isEmpty 9999
    have h3 := MapKept.run_findKey (P := Try.prog) (w := w) Try.underlying27 hq
    cases r with
    | none =>
      simp only [Option.map_none] at hs
      rw [← hs]
      simp [Instr.lookup, run_underlying Try.underlying54, h1, h2, h3]
    | some r =>
      simp only [Option.map_some] at hs
      rw [← hs]
      simp [Instr.lookup, run_underlying Try.underlying54, h1, h2, h3]

theorem maps_made (w : World) : Maps (w.alloc (.map #[] 0)) w.heap.size 0 (fun _ => none) :=
  ⟨#[], 0, heap_alloc_new _ _, rfl, fun _ => rfl⟩

theorem findNow_snoc (q : Value) (x : MapEntry) : ∀ (l : List MapEntry) (i : Nat), Instr.findNow (.int .i64) q (l ++ [x]) i =
    match Instr.findNow (.int .i64) q l i with | some none => Instr.findNow (.int .i64) q [x] (i + l.length) | r => r
  | [], i => by simp [Instr.findNow]
  | e :: l, i => by
    simp only [List.cons_append, Instr.findNow]
    cases h : Instr.sameNow (.int .i64) q e.key with
    | none => rfl
    | some b =>
      cases b with
      | true => rfl
      | false =>
        simp only []
        rw [findNow_snoc q x l (i + 1)]
        simp only [Instr.findNow, List.length_cons]
        rw [show i + 1 + l.length = i + (l.length + 1) by omega]

theorem Maps.put {w : World} {m n : Nat} {f : Int → Option Value} (h : Maps w m n f) {p : Int} (hf : f p = none) (v : Value) :
    ∃ w', (Instr.mapUpdate 54 (.map (some m)) (.int .i64 p) v).run Try.prog w = .ok () w' ∧ Maps w' m (n + 1) (fun s => if s = p then some v else f s) ∧ Turned w w' m := by
  obtain ⟨es, clock, hm, hn, hs⟩ := h
  have hp := hs p
  rw [hf] at hp
  have hfind : Instr.findNow (.int .i64) (.int .i64 p) es.toList 0 = some none := by
    cases hq : Instr.findNow (.int .i64) (.int .i64 p) es.toList 0 with
    | none => rw [hq] at hp; cases hp
    | some r =>
      cases r with
      | none => rfl
      | some r => rw [hq] at hp; simp at hp
  have h1 := MapKept.run_getObj_map (P := Try.prog) hm
  have h2 := MapKept.run_checkKey (P := Try.prog) (w := w) Try.underlying27 (k := .int .i64 p) rfl false 9999
  have h3 := MapKept.run_findKey (P := Try.prog) (w := w) Try.underlying27 hfind
  have h4 := MapKept.run_setObj_map (P := Try.prog) (.map (es.push ⟨.int .i64 p, v, clock⟩) (clock + 1)) hm
  refine ⟨{ w with heap := w.heap.setIfInBounds m (.map (es.push ⟨.int .i64 p, v, clock⟩) (clock + 1)) }, ?_, ⟨es.push ⟨.int .i64 p, v, clock⟩, clock + 1, ?_, by simp [hn], fun s => ?_⟩, rfl, rfl, rfl, by simp, fun k hk => ?_⟩
  · simp [Instr.mapUpdate, run_underlying Try.underlying54, h1, h2, h3, h4]
  · show (w.heap.setIfInBounds m _)[m]? = _
    rw [Array.getElem?_setIfInBounds]
    rcases Nat.lt_or_ge m w.heap.size with hlt | hge
    · simp [hlt]
    · rw [Array.getElem?_eq_none hge] at hm; cases hm
  · have hq := hs s
    rw [Array.toList_push, findNow_snoc]
    by_cases he : s = p
    · subst he
      rw [hfind]
      simp [Instr.findNow, Instr.sameNow]
    · cases hr : Instr.findNow (.int .i64) (.int .i64 s) es.toList 0 with
      | none => rw [hr] at hq; cases hq
      | some r =>
        rw [hr] at hq
        cases r with
        | none =>
          simp only [Option.map_some, Option.map_none, Option.some.injEq] at hq
          have hne : (s == p) = false := by simpa using he
          simp [Instr.findNow, Instr.sameNow, hne, he, ← hq]
        | some r => simpa [he] using hq
  · show (w.heap.setIfInBounds m _)[k]? = _
    rw [Array.getElem?_setIfInBounds_ne (fun e => hk e.symm)]

end Go.Proofs.Qxb6612866a
