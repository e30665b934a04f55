/- Rows of ints and of bools, what stays of them; endings. -/
import Derived.Test.Qxb6612866aRows
import Derived.WalkKit
import Derived.WalkSpells
import Derived.WalkLawsBesides
import Derived.Below
import Derived.BigQuiet
import Derived.Deep.QuietTactic
import Derived.Deep.RegionHeld3
import Derived.Deep.DrawnRows
namespace Go.Proofs.Qxb6612866a
open Go.RowKit

/-- The i-th number. -/
def at_ (l : List Int) (i : Nat) : Int := l.getD i 0
theorem at_eq (l : List Int) (i : Nat) (h : i < l.length) : at_ l i = l[i] := by simp [at_, List.getElem?_eq_getElem h]
theorem at_mem {l : List Int} {i : Nat} (h : i < l.length) : at_ l i ∈ l := by rw [at_eq l i h]; exact List.getElem_mem h

/-- The i-th flag. -/
def bt_ (l : List Bool) (i : Nat) : Bool := l.getD i false

theorem cell_later' {w w' : World} (hb : Below w.heap.size w w') {a : Addr} {v : Value} (h : w.cell? a = some v) : w'.cell? a = some v := (hb.cell (World.block_lt_of_cell? _ _ h)).trans h

/-- The cells behind 'a' hold the numbers 'l'. -/
def Row (w : World) (a : Option Addr) (l : List Int) : Prop :=
  ∀ i, i < l.length → ∃ b off, a = some ⟨b, off, none⟩ ∧ w.cell? ⟨b, off + i, none⟩ = some (.int .i64 (at_ l i))
theorem Row.nil (w : World) (a : Option Addr) : Row w a [] := fun i hi => absurd hi (by simp)
theorem Row.below {w w' : World} {a : Option Addr} {l : List Int} (h : Row w a l) (hb : Below w.heap.size w w') : Row w' a l := by
  intro i hi
  obtain ⟨b, off, e, c⟩ := h i hi
  exact ⟨b, off, e, cell_later' hb c⟩

/-- The cells behind 'a' hold the flags 'l'. -/
def RowB (w : World) (a : Option Addr) (l : List Bool) : Prop :=
  ∀ i, i < l.length → ∃ b off, a = some ⟨b, off, none⟩ ∧ w.cell? ⟨b, off + i, none⟩ = some (.bool (bt_ l i))
theorem RowB.nil (w : World) (a : Option Addr) : RowB w a [] := fun i hi => absurd hi (by simp)
theorem RowB.below {w w' : World} {a : Option Addr} {l : List Bool} (h : RowB w a l) (hb : Below w.heap.size w w') : RowB w' a l := by
  intro i hi
  obtain ⟨b, off, e, c⟩ := h i hi
  exact ⟨b, off, e, cell_later' hb c⟩

def IsBool (e : Ending) : Prop := ∃ b : Bool, e = .returned (.bool b)
def Says (p : Prop) (e : Ending) : Prop := ∃ b : Bool, e = .returned (.bool b) ∧ (b = true ↔ p)
theorem Says.yes {p : Prop} (h : p) : Says p (.returned (.bool true)) := ⟨true, rfl, fun _ => h, fun _ => rfl⟩
theorem Says.no {p : Prop} (h : ¬ p) : Says p (.returned (.bool false)) := ⟨false, rfl, fun k => (by cases k), fun k => absurd k h⟩
theorem Says.is {p : Prop} {b : Bool} (h : b = true ↔ p) : Says p (.returned (.bool b)) := ⟨b, rfl, h⟩

/-- Strictly rising. -/
def Asc (l : List Int) : Prop := ∀ i, i + 1 < l.length → at_ l i < at_ l (i + 1)

theorem Asc.lt {l : List Int} (h : Asc l) : ∀ {i j : Nat}, i < j → j < l.length → at_ l i < at_ l j := by
  intro i j hij hj
  induction j with
  | zero => omega
  | succ j ih =>
    by_cases he : i = j
    · subst he; exact h i hj
    · have := ih (by omega) (by omega)
      have := h j hj
      omega

set_option maxHeartbeats 400000 in
theorem bytes5 (x y : Int) (a1 a2 a3 : Option Addr) (c1 c2 c3 : Nat) (l1 l2 l3 : List Int) (w : World) (h1 : l1.length ≤ 9223372036854775807) (h2 : l2.length ≤ 9223372036854775807) (h3 : l3.length ≤ 9223372036854775807) :
    Calls Try.prog 5 #[.int .i64 x, .slice a1 l1.length c1, .slice a2 l2.length c2, .slice a3 l3.length c3, .int .i64 y] w fun e w' => IsBool e ∧ w' = w := by
  go_enter Try.func5, Try.ntmps5
  go_wp2
  all_goals (go_ret; exact ⟨⟨_, rfl⟩, rfl⟩)

set_option maxHeartbeats 400000 in
theorem bytes19 (x y : Int) (a1 a2 a3 a4 : Option Addr) (c1 c2 c3 c4 : Nat) (l1 l2 l3 l4 : List Int) (w : World) (h1 : l1.length ≤ 9223372036854775807) (h2 : l2.length ≤ 9223372036854775807) (h3 : l3.length ≤ 9223372036854775807) (h4 : l4.length ≤ 9223372036854775807) :
    Calls Try.prog 19 #[.slice a1 l1.length c1, .slice a2 l2.length c2, .slice a3 l3.length c3, .slice a4 l4.length c4, .int .i64 x, .int .i64 y] w fun e w' => IsBool e ∧ w' = w := by
  go_enter Try.func19, Try.ntmps19
  go_wp2
  all_goals (go_ret; exact ⟨⟨_, rfl⟩, rfl⟩)

set_option maxHeartbeats 400000 in
theorem asc6 (a : Option Addr) (cap : Nat) (l : List Int) (w : World) (hl : l.length ≤ 9223372036854775807) (hr : Row w a l) :
    Calls Try.prog 6 #[.slice a l.length cap] w fun e w' => Says (Asc l) e ∧ Below w.heap.size w w' := by
  go_enter Try.func6, Try.ntmps6
  go_wp2
  go_loopw [3] (fun i wr => ∃ k : Nat, 1 ≤ k ∧ i = .int .i64 k ∧ (k ≤ l.length ∨ k = 1) ∧ Hid (∀ i, i + 1 < k → i + 1 < l.length → at_ l i < at_ l (i + 1)) ∧ Below w.heap.size w wr) (fun i _ => l.length - (intOf i).toNat)
  case atStart => exact ⟨1, by omega, rfl, by omega, by intro i hi; omega, Below.refl _ _⟩
  case round =>
    obtain ⟨k, hk1, rfl, hk, HV, hb⟩ := hrel
    by_cases hlt : k < l.length
    · obtain ⟨j, rfl⟩ : ∃ j, k = j + 1 := ⟨k - 1, by omega⟩
      have hrw := hr.below hb
      obtain ⟨b, off, rfl, c0⟩ := hrw j (by omega)
      obtain ⟨b', off', e', c2⟩ := hrw (j + 1) hlt
      simp only [Option.some.injEq, Addr.mk.injEq, and_true] at e'
      obtain ⟨rfl, rfl⟩ := e'
      clear hrw hr
      by_cases hs : at_ l j < at_ l (j + 1)
      · have hg : decide (at_ l (j + 1) ≤ at_ l j) = false := by simpa using hs
        have HS : Hid (at_ l j < at_ l (j + 1)) := hs
        clear hs
        go_wp2
        go_quiet (fail)
        go_wp2
        go_roundw
        case rel =>
          refine ⟨j + 1 + 1, by omega, by go_num, by omega, ?_, below_drewN hb _⟩
          intro i hi h2
          by_cases hij : i = j
          · subst hij; exact HS.out
          · exact HV.out i (by omega) h2
        case measure => simp [intOf]; omega
      · have hg : decide (at_ l (j + 1) ≤ at_ l j) = true := by simpa using hs
        have HS : Hid (¬ at_ l j < at_ l (j + 1)) := hs
        clear hs
        go_wp2
        go_quiet (fail)
        go_wp2
        go_ret
        exact ⟨Says.no fun h => absurd (h j hlt) (Int.not_lt.2 HS.out), below_drewN hb _⟩
    · clear hr
      go_wp2
      go_ret
      exact ⟨Says.yes fun i hi => HV.out i (by omega) hi, hb⟩

/-- k is where v stands in l, or would stand. -/
def Found (l : List Int) (v : Int) (k : Nat) : Prop := k ≤ l.length ∧ (∀ i, i < k → at_ l i < v) ∧ ∀ i, k ≤ i → i < l.length → v ≤ at_ l i

theorem Found.unique {l : List Int} {v : Int} {k k' : Nat} (h : Found l v k) (h' : Found l v k') : k = k' := by
  rcases Nat.lt_trichotomy k k' with hlt | he | hlt
  · have := h'.2.1 k hlt
    have := h.2.2 k (Nat.le_refl _) (by have := h'.1; omega)
    omega
  · exact he
  · have := h.2.1 k' hlt
    have := h'.2.2 k' (Nat.le_refl _) (by have := h.1; omega)
    omega

theorem ret_pair {n : Value} {b b' : Bool} (h : b = b') : Ending.returned (.tuple #[n, .bool b]) = .returned (.tuple #[n, .bool b']) := by rw [h]

/-- The call hands back the place and whether v stands there. -/
def IsFind (l : List Int) (v : Int) (e : Ending) : Prop := ∃ k : Nat, e = .returned (.tuple #[.int .i64 k, .bool (decide (k < l.length ∧ at_ l k = v))]) ∧ Found l v k

set_option maxHeartbeats 1000000 in
theorem find12 (a : Option Addr) (cap : Nat) (l : List Int) (v : Int) (w : World) (hl : l.length ≤ 1000000) (hr : Row w a l) (ha : Asc l) :
    Calls Try.prog 12 #[.slice a l.length cap, .int .i64 v] w fun e w' => IsFind l v e ∧ Below w.heap.size w w' := by
  have HA : Hid (Asc l) := ha
  clear ha
  go_enter Try.func12, Try.ntmps12
  go_wp2
  go_loopw [6, 7] (fun i j wr => ∃ lo hi : Nat, lo ≤ hi ∧ hi ≤ l.length ∧ i = .int .i64 lo ∧ j = .int .i64 hi ∧ Hid ((∀ i, i < lo → at_ l i < v) ∧ ∀ i, hi ≤ i → i < l.length → v ≤ at_ l i) ∧ Below w.heap.size w wr) (fun i j _ => (intOf j).toNat - (intOf i).toNat)
  case atStart => exact ⟨0, l.length, by omega, by omega, rfl, rfl, ⟨fun i hi => by omega, fun i h1 h2 => by omega⟩, Below.refl _ _⟩
  case round =>
    obtain ⟨lo, hi, h1, h2, rfl, rfl, HV, hb⟩ := hrel
    by_cases hlt : lo < hi
    · obtain ⟨m, hm⟩ : ∃ m : Nat, m = lo + (hi - lo) / 2 := ⟨_, rfl⟩
      have hm1 : lo ≤ m := by omega
      have hm2 : m < hi := by omega
      have hrw := hr.below hb
      obtain ⟨b, off, rfl, c0⟩ := hrw m (by omega)
      clear hrw hr
      have hd : Int.tdiv ((hi : Int) - (lo : Int)) 2 = (m : Int) - (lo : Int) := by
        rw [Int.tdiv_eq_ediv_of_nonneg (by omega)]; omega
      have i1 : (0 : Int) ≤ (m : Int) := by omega
      have i2 : (m : Int) < (l.length : Int) := by omega
      have hlm : (lo : Int) + ((m : Int) - (lo : Int)) = (m : Int) := by omega
      clear hm
      by_cases hv : at_ l m < v
      · have HX : Hid (at_ l m < v) := hv
        have hv' : decide (at_ l m < v) = true := decide_eq_true hv
        clear hv
        go_wp2
        go_roundw
        case rel =>
          refine ⟨m + 1, hi, by omega, h2, by go_num, rfl, ⟨fun i hi' => ?_, HV.out.2⟩, hb⟩
          by_cases him : i = m
          · subst him; exact HX.out
          · have := HA.out.lt (i := i) (j := m) (by omega) (by omega)
            have := HX.out
            omega
        case measure => simp [intOf]; omega
      · have HX : Hid (v ≤ at_ l m) := Int.not_lt.1 hv
        have hv' : decide (at_ l m < v) = false := decide_eq_false hv
        clear hv
        go_wp2
        go_roundw
        case rel =>
          refine ⟨lo, m, by omega, by omega, rfl, rfl, ⟨HV.out.1, fun i h1' h2' => ?_⟩, hb⟩
          by_cases him : i = m
          · subst him; exact HX.out
          · have := HA.out.lt (i := m) (j := i) (by omega) h2'
            have := HX.out
            omega
        case measure => simp [intOf]; omega
    · obtain rfl : lo = hi := by omega
      have HF : Found l v lo := ⟨h2, HV.out.1, HV.out.2⟩
      by_cases hz : lo < l.length
      · have hrw := hr.below hb
        obtain ⟨b, off, rfl, c0⟩ := hrw lo hz
        clear hrw hr
        have hz' : decide ((lo : Int) < (l.length : Int)) = true := decide_eq_true (by omega)
        go_wp2
        go_quiet (fail)
        go_wp2
        go_ret2
        exact ⟨⟨lo, ret_pair (by rw [Bool.eq_iff_iff]; simp [hz]), HF⟩, below_drewN hb _⟩
      · have hz' : decide ((lo : Int) < (l.length : Int)) = false := decide_eq_false (by omega)
        clear hr
        go_wp2
        go_quiet (fail)
        go_wp2
        go_ret2
        exact ⟨⟨lo, ret_pair (by rw [Bool.eq_iff_iff]; simp [hz]), HF⟩, below_drewN hb _⟩

end Go.Proofs.Qxb6612866a
