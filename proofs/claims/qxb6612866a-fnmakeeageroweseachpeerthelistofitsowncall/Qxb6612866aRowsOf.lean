/- toIDs (8), cloneInts (11), equalInts (17), equalBools (23). -/
import Derived.Test.Qxb6612866aBase
namespace Go.Proofs.Qxb6612866a
open Go.RowKit

theorem info27 : (Try.prog.info? 27).map (fun i => (i.zero, i.size, i.bytes)) = some (some (.int .i64 0), 1, 8) := by kernel_rfl
theorem info3 : (Try.prog.info? 3).map (fun i => (i.zero, i.size, i.bytes)) = some (some (.int .i64 0), 1, 8) := by kernel_rfl
theorem info4 : (Try.prog.info? 4).map (fun i => (i.zero, i.size, i.bytes)) = some (some (.bool false), 1, 1) := by kernel_rfl

def zerosOf (z : Value) (n : Nat) : Array Value := madeCells z.cells (n * 1)
theorem size_zerosOf (z : Value) (n : Nat) : (zerosOf z n).size = n := by unfold zerosOf; rw [size_madeCells]; omega

theorem make_of {t e : TypeId} {z : Value} {k : Nat} (hu : Try.prog.underlying t = some (.slice e)) (hi : (Try.prog.info? e).map (fun i => (i.zero, i.size, i.bytes)) = some (some z, 1, k)) (hk : k ≤ 8) (l c : Nat) (hl : l ≤ c) (hc : c ≤ 1000000000) (w : World) :
    (Instr.makeSlice t (.int .i64 (l : Int)) (.int .i64 (c : Int))).run Try.prog w = .ok (.slice (some ⟨w.heap.size, 0, none⟩) l c) (w.alloc (.cells (zerosOf z c) e)) := by
  cases hx : Try.prog.info? e with
  | none => rw [hx] at hi; simp at hi
  | some i =>
    rw [hx] at hi
    simp only [Option.map_some, Option.some.injEq, Prod.mk.injEq] at hi
    have := run_make (P := Try.prog) w t e i _ hu hx hi.1 .i64 .i64 (l : Int) (c : Int) (by omega) (by omega) (by rw [hi.2.2]; have := Nat.mul_le_mul_left c hk; rw [Nat.mul_comm] at this; omega) (by omega)
    rw [this, hi.2.1]
    simp [zerosOf]

theorem make28 (l c : Nat) (hl : l ≤ c) (hc : c ≤ 1000000000) (w : World) : (Instr.makeSlice 28 (.int .i64 (l : Int)) (.int .i64 (c : Int))).run Try.prog w = .ok (.slice (some ⟨w.heap.size, 0, none⟩) l c) (w.alloc (.cells (zerosOf (.int .i64 0) c) 27)) :=
  make_of (k := 8) Try.underlying28 info27 (by decide) l c hl hc w
theorem make22 (l c : Nat) (hl : l ≤ c) (hc : c ≤ 1000000000) (w : World) : (Instr.makeSlice 22 (.int .i64 (l : Int)) (.int .i64 (c : Int))).run Try.prog w = .ok (.slice (some ⟨w.heap.size, 0, none⟩) l c) (w.alloc (.cells (zerosOf (.int .i64 0) c) 3)) :=
  make_of (k := 8) Try.underlying22 info3 (by decide) l c hl hc w
theorem make33 (l c : Nat) (hl : l ≤ c) (hc : c ≤ 1000000000) (w : World) : (Instr.makeSlice 33 (.int .i64 (l : Int)) (.int .i64 (c : Int))).run Try.prog w = .ok (.slice (some ⟨w.heap.size, 0, none⟩) l c) (w.alloc (.cells (zerosOf (.bool false) c) 4)) :=
  make_of (k := 1) Try.underlying33 info4 (by decide) l c hl hc w

/-- Block g is a row of n cells of type t, the first k of them the numbers of l. -/
def Filled (w : World) (t : TypeId) (g n k : Nat) (l : List Int) : Prop :=
  ∃ cur : Array Value, w.heap[g]? = some (.cells cur t (0, 0)) ∧ cur.size = n ∧ ∀ i, i < k → cur[i]? = some (.int .i64 (at_ l i))

theorem Filled.row {w : World} {t : TypeId} {g : Nat} {l : List Int} {n : Nat} (h : Filled w t g n l.length l) : Row w (some ⟨g, 0, none⟩) l := by
  obtain ⟨cur, hb, _, hc⟩ := h
  intro i hi
  exact ⟨g, 0, rfl, by simp [World.cell?, hb, hc i hi]⟩

theorem Filled.made (w : World) (t : TypeId) (z : Value) (n : Nat) (l : List Int) : Filled (w.alloc (.cells (zerosOf z n) t)) t w.heap.size n 0 l :=
  ⟨zerosOf z n, by show (w.heap.push _)[w.heap.size]? = _; simp, size_zerosOf z n, fun i hi => absurd hi (by omega)⟩

theorem Filled.step {w : World} {t : TypeId} {g n k : Nat} {l : List Int} (h : Filled w t g n k l) (hk : k < n) :
    Filled (w.setCell ⟨g, k, none⟩ (.int .i64 (at_ l k))) t g n (k + 1) l := by
  obtain ⟨cur, hb, hs, hc⟩ := h
  refine ⟨cur.setIfInBounds k (.int .i64 (at_ l k)), ?_, by simp [hs], fun i hi => ?_⟩
  · simp [World.setCell, Array.getElem?_modify, hb]
  · by_cases hik : i = k
    · subst hik
      simp [Array.getElem?_setIfInBounds, hs]
      omega
    · rw [Array.getElem?_setIfInBounds_ne (by omega)]
      exact hc i (by omega)

theorem Filled.cells {w : World} {t : TypeId} {g n k : Nat} {l : List Int} (h : Filled w t g n k l) (j : Nat) (hj : j < n) :
    (∃ v, w.cell? ⟨g, j, none⟩ = some v) ∧ ∀ o, w.frozen? ⟨g, o, none⟩ = false := by
  obtain ⟨cur, hb, hs, _⟩ := h
  refine ⟨⟨cur[j]'(by omega), ?_⟩, fun o => ?_⟩
  · simp [World.cell?, hb]
  · simp [World.frozen?, hb]

/-- The call hands back a slice over l that lies at the head of a new row, block g. -/
def Fresh (B : Nat) (t : TypeId) (l : List Int) (w : World) (e : Ending) : Prop :=
  ∃ (g cap : Nat), e = .returned (.slice (some ⟨g, 0, none⟩) l.length cap) ∧ B ≤ g ∧ Filled w t g cap l.length l ∧ l.length ≤ cap

set_option maxHeartbeats 1000000 in
theorem toIDs8 (a : Option Addr) (cap : Nat) (l : List Int) (w : World) (hl : l.length ≤ 1000000) (hr : Row w a l) :
    Calls Try.prog 8 #[.slice a l.length cap] w fun e w' => Fresh w.heap.size 27 l w' e ∧ Below w.heap.size w w' := by
  have hmk := make28 l.length l.length (Nat.le_refl _) (by omega)
  have hst : Below w.heap.size w (w.alloc (.cells (zerosOf (.int .i64 0) l.length) 27)) := (Below.refl _ _).alloc (Nat.le_refl _) _
  go_enter Try.func8, Try.ntmps8
  go_wp2
  go_loopw [11] (fun i wr => ∃ k : Nat, k ≤ l.length ∧ i = .int .i64 k ∧ Filled wr 27 w.heap.size l.length k l ∧ Below w.heap.size w wr) (fun i _ => l.length - (intOf i).toNat)
  case atStart => exact ⟨0, by omega, rfl, Filled.made w _ _ _ l, hst⟩
  case round =>
    clear hst hmk
    obtain ⟨k, hk, rfl, HF, hb⟩ := hrel
    by_cases hlt : k < l.length
    · have hrw := hr.below hb
      obtain ⟨b, off, rfl, c0⟩ := hrw k hlt
      obtain ⟨⟨v0, d0⟩, hfz⟩ := HF.cells k hlt
      clear hrw hr
      have i1 : (0 : Int) ≤ (k : Int) := by omega
      have i2 : (k : Int) < (l.length : Int) := by omega
      go_wp2
      go_roundw
      case rel => exact ⟨k + 1, by omega, by go_num, HF.step hlt, hb.setCell (Nat.le_refl _) _⟩
      case measure => simp [intOf]; omega
    · clear hr
      have HK : Hid (k = l.length) := by show k = l.length; omega
      go_wp2
      go_ret
      rw [HK.out] at HF
      exact ⟨⟨_, _, rfl, Nat.le_refl _, HF, Nat.le_refl _⟩, hb⟩

/-- A clone of a row: nil stays nil. -/
def Cloned (B : Nat) (t : TypeId) (a : Option Addr) (l : List Int) (w : World) (e : Ending) : Prop := (a = none ∧ e = .returned (.slice none 0 0)) ∨ (a ≠ none ∧ Fresh B t l w e)

theorem Row.none {w : World} {l : List Int} (h : Row w none l) : l = [] := by
  cases l with
  | nil => rfl
  | cons x l => obtain ⟨b, off, e, _⟩ := h 0 (by simp); cases e

set_option maxHeartbeats 1000000 in
theorem clone11 (a : Option Addr) (cap : Nat) (l : List Int) (w : World) (hl : l.length ≤ 1000000) (hr : Row w a l) :
    Calls Try.prog 11 #[.slice a l.length cap] w fun e w' => Cloned w.heap.size 3 a l w' e ∧ Below w.heap.size w w' := by
  have heq : ∀ w, (binOp .eql 22 (.slice a l.length cap) (.slice none 0 0)).run Try.prog w = .ok (.bool a.isNone) w := fun w => Lib.run_eql_slice_nil w _ _ a _ _ _ _ Try.underlying22
  have hmk := make22 l.length l.length (Nat.le_refl _) (by omega)
  cases hn : a with
  | none =>
    subst hn
    obtain rfl := hr.none
    clear hmk hr
    simp only [List.length_nil] at heq
    show Calls Try.prog 11 #[.slice none 0 cap] w _
    go_enter Try.func11, Try.ntmps11
    go_wp2
    go_ret
    exact ⟨.inl ⟨rfl, rfl⟩, Below.refl _ _⟩
  | some ad =>
    subst hn
    have hst : Below w.heap.size w (w.alloc (.cells (zerosOf (.int .i64 0) l.length) 3)) := (Below.refl _ _).alloc (Nat.le_refl _) _
    go_enter Try.func11, Try.ntmps11
    go_wp2
    go_loopw [13] (fun i wr => ∃ k : Nat, k ≤ l.length ∧ i = .int .i64 k ∧ Filled wr 3 w.heap.size l.length k l ∧ Below w.heap.size w wr) (fun i _ => l.length - (intOf i).toNat)
    case atStart => exact ⟨0, by omega, rfl, Filled.made w _ _ _ l, hst⟩
    case round =>
      clear hst hmk heq
      obtain ⟨k, hk, rfl, HF, hb⟩ := hrel
      by_cases hlt : k < l.length
      · have hrw := hr.below hb
        obtain ⟨b, off, e, c0⟩ := hrw k hlt
        obtain rfl : ad = ⟨b, off, none⟩ := by simpa using e
        obtain ⟨⟨v0, d0⟩, hfz⟩ := HF.cells k hlt
        clear hrw hr e
        have i1 : (0 : Int) ≤ (k : Int) := by omega
        have i2 : (k : Int) < (l.length : Int) := by omega
        go_wp2
        go_roundw
        case rel => exact ⟨k + 1, by omega, by go_num, HF.step hlt, hb.setCell (Nat.le_refl _) _⟩
        case measure => simp [intOf]; omega
      · clear hr
        have HK : Hid (k = l.length) := by show k = l.length; omega
        go_wp2
        go_ret
        rw [HK.out] at HF
        exact ⟨.inr ⟨by simp, _, _, rfl, Nat.le_refl _, HF, Nat.le_refl _⟩, hb⟩

theorem ret_true {p : Prop} [Decidable p] (h : p) : Ending.returned (.bool true) = .returned (.bool (decide p)) := by rw [decide_eq_true h]
theorem ret_false {p : Prop} [Decidable p] (h : ¬ p) : Ending.returned (.bool false) = .returned (.bool (decide p)) := by rw [decide_eq_false h]

theorem list_ext {l m : List Int} (h : l.length = m.length) (hi : ∀ i, i < l.length → at_ l i = at_ m i) : l = m := by
  refine List.ext_getElem h fun i h1 h2 => ?_
  have := hi i h1
  rwa [at_eq l i h1, at_eq m i h2] at this
theorem bt_eq (l : List Bool) (i : Nat) (h : i < l.length) : bt_ l i = l[i] := by simp [bt_, List.getElem?_eq_getElem h]
theorem list_extB {l m : List Bool} (h : l.length = m.length) (hi : ∀ i, i < l.length → bt_ l i = bt_ m i) : l = m := by
  refine List.ext_getElem h fun i h1 h2 => ?_
  have := hi i h1
  rwa [bt_eq l i h1, bt_eq m i h2] at this

set_option maxHeartbeats 400000 in
theorem equal17 (a a' : Option Addr) (cap cap' : Nat) (l m : List Int) (w : World) (hl : l.length ≤ 9223372036854775807) (hr : Row w a l) (hr' : Row w a' m) :
    Calls Try.prog 17 #[.slice a l.length cap, .slice a' m.length cap'] w fun e w' => e = .returned (.bool (decide (l = m))) ∧ Below w.heap.size w w' := by
  by_cases hlen : l.length = m.length
  · have hlen' : ((l.length : Int) != (m.length : Int)) = false := by simp [hlen]
    have HL : Hid (l.length = m.length) := hlen
    clear hlen
    go_enter Try.func17, Try.ntmps17
    go_wp2
    go_loopw [13] (fun i wr => ∃ k : Nat, k ≤ l.length ∧ i = .int .i64 k ∧ Hid (∀ i, i < k → at_ l i = at_ m i) ∧ Below w.heap.size w wr) (fun i _ => l.length - (intOf i).toNat)
    case atStart => exact ⟨0, by omega, rfl, by intro i hi; omega, Below.refl _ _⟩
    case round =>
      obtain ⟨k, hk, rfl, HV, hb⟩ := hrel
      by_cases hlt : k < l.length
      · have hrw := hr.below hb
        have hrw' := hr'.below hb
        obtain ⟨b, off, rfl, c0⟩ := hrw k hlt
        have hltm : k < m.length := by have := HL.out; omega
        obtain ⟨b', off', rfl, c2⟩ := hrw' k hltm
        clear hrw hrw' hr hr'
        by_cases he : at_ l k = at_ m k
        · have HE : Hid (at_ l k = at_ m k) := he
          have h3 : (at_ l k != at_ m k) = false := by simp [he]
          clear he
          go_wp2
          go_quiet (fail)
          go_wp2
          go_roundw
          case rel =>
            refine ⟨k + 1, by omega, by go_num, ?_, below_drewN hb _⟩
            intro i hi
            by_cases hij : i = k
            · subst hij; exact HE.out
            · exact HV.out i (by omega)
          case measure => simp [intOf]; omega
        · have HE : Hid (at_ l k ≠ at_ m k) := he
          have h3 : (at_ l k != at_ m k) = true := by simpa using he
          clear he
          go_wp2
          go_quiet (fail)
          go_wp2
          go_ret
          exact ⟨ret_false (fun e => HE.out (by rw [e])), below_drewN hb _⟩
      · clear hr hr'
        go_wp2
        go_ret
        exact ⟨ret_true (list_ext HL.out fun i hi => HV.out i (by omega)), hb⟩
  · have hlen' : ((l.length : Int) != (m.length : Int)) = true := by simp; omega
    go_enter Try.func17, Try.ntmps17
    go_wp2
    go_ret
    exact ⟨ret_false (fun e => hlen (by rw [e])), Below.refl _ _⟩

set_option maxHeartbeats 400000 in
theorem equal23 (a a' : Option Addr) (cap cap' : Nat) (l m : List Bool) (w : World) (hl : l.length ≤ 9223372036854775807) (hr : RowB w a l) (hr' : RowB w a' m) :
    Calls Try.prog 23 #[.slice a l.length cap, .slice a' m.length cap'] w fun e w' => e = .returned (.bool (decide (l = m))) ∧ Below w.heap.size w w' := by
  by_cases hlen : l.length = m.length
  · have hlen' : ((l.length : Int) != (m.length : Int)) = false := by simp [hlen]
    have HL : Hid (l.length = m.length) := hlen
    clear hlen
    go_enter Try.func23, Try.ntmps23
    go_wp2
    go_loopw [13] (fun i wr => ∃ k : Nat, k ≤ l.length ∧ i = .int .i64 k ∧ Hid (∀ i, i < k → bt_ l i = bt_ m i) ∧ Below w.heap.size w wr) (fun i _ => l.length - (intOf i).toNat)
    case atStart => exact ⟨0, by omega, rfl, by intro i hi; omega, Below.refl _ _⟩
    case round =>
      obtain ⟨k, hk, rfl, HV, hb⟩ := hrel
      by_cases hlt : k < l.length
      · have hrw := hr.below hb
        have hrw' := hr'.below hb
        obtain ⟨b, off, rfl, c0⟩ := hrw k hlt
        have hltm : k < m.length := by have := HL.out; omega
        obtain ⟨b', off', rfl, c2⟩ := hrw' k hltm
        clear hrw hrw' hr hr'
        cases hx : bt_ l k with
        | false =>
          rw [hx] at c0
          cases hy : bt_ m k with
          | false =>
            rw [hy] at c2
            have HE : Hid (bt_ l k = bt_ m k) := hx.trans hy.symm
            clear hx hy
            go_wp2
            go_quiet (fail)
            go_wp2
            go_roundw
            case rel =>
              refine ⟨k + 1, by omega, by go_num, ?_, below_drewN hb _⟩
              intro i hi
              by_cases hij : i = k
              · subst hij; exact HE.out
              · exact HV.out i (by omega)
            case measure => simp [intOf]; omega
          | true =>
            rw [hy] at c2
            have HE : Hid (bt_ l k ≠ bt_ m k) := by show bt_ l k ≠ bt_ m k; rw [hx, hy]; decide
            clear hx hy
            go_wp2
            go_quiet (fail)
            go_wp2
            go_ret
            exact ⟨ret_false (fun e => HE.out (by rw [e])), below_drewN hb _⟩
        | true =>
          rw [hx] at c0
          cases hy : bt_ m k with
          | false =>
            rw [hy] at c2
            have HE : Hid (bt_ l k ≠ bt_ m k) := by show bt_ l k ≠ bt_ m k; rw [hx, hy]; decide
            clear hx hy
            go_wp2
            go_quiet (fail)
            go_wp2
            go_ret
            exact ⟨ret_false (fun e => HE.out (by rw [e])), below_drewN hb _⟩
          | true =>
            rw [hy] at c2
            have HE : Hid (bt_ l k = bt_ m k) := hx.trans hy.symm
            clear hx hy
            go_wp2
            go_quiet (fail)
            go_wp2
            go_roundw
            case rel =>
              refine ⟨k + 1, by omega, by go_num, ?_, below_drewN hb _⟩
              intro i hi
              by_cases hij : i = k
              · subst hij; exact HE.out
              · exact HV.out i (by omega)
            case measure => simp [intOf]; omega
      · clear hr hr'
        go_wp2
        go_ret
        exact ⟨ret_true (list_extB HL.out fun i hi => HV.out i (by omega)), hb⟩
  · have hlen' : ((l.length : Int) != (m.length : Int)) = true := by simp; omega
    go_enter Try.func23, Try.ntmps23
    go_wp2
    go_ret
    exact ⟨ret_false (fun e => hlen (by rw [e])), Below.refl _ _⟩

end Go.Proofs.Qxb6612866a
