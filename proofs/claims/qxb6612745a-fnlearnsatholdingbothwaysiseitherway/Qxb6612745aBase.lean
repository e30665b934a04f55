/- The rows of pairs (name, counter) that the laws' slices lead to, and what stays of them. -/
import Derived.Test.Qxb6612745aRows
import Derived.Test.Qxb6612745aPlain
import Derived.WalkKit
import Derived.WalkSpells
import Derived.WalkLawsBesides
namespace Go.Proofs.Qxb6612745a
open Go.RowKit

/-- The cells behind 'a' hold the pairs 'l', two cells a pair. -/
def Row (w : World) (a : Option Addr) (l : List (ByteArray × Int)) : Prop :=
  ∀ i, i < l.length → ∃ b off, a = some ⟨b, off, none⟩ ∧ w.cell? ⟨b, off + i * 2, none⟩ = some (.string (at_ l i).1) ∧ w.cell? ⟨b, off + i * 2 + 1, none⟩ = some (.int .u64 (at_ l i).2)

theorem Row.nil (w : World) (a : Option Addr) : Row w a [] := fun i hi => absurd hi (by simp)

theorem Row.below {w w' : World} {a : Option Addr} {l : List (ByteArray × Int)} (h : Row w a l) (hb : Below w.heap.size w w') : Row w' a l := by
  intro i hi
  obtain ⟨b, off, e, c0, c1⟩ := h i hi
  exact ⟨b, off, e, cell_later hb c0, cell_later hb c1⟩

/-- The row of what is left behind the first pair. -/
theorem Row.tail {w : World} {b off : Nat} {e : ByteArray × Int} {l : List (ByteArray × Int)} (h : Row w (some ⟨b, off, none⟩) (e :: l)) : Row w (some ⟨b, off + 2, none⟩) l := by
  intro i hi
  obtain ⟨b', off', e', c0, c1⟩ := h (i + 1) (by simpa using hi)
  simp only [Option.some.injEq, Addr.mk.injEq, and_true] at e'
  obtain ⟨rfl, rfl⟩ := e'
  refine ⟨b, off + 2, rfl, ?_, ?_⟩
  · rw [show off + 2 + i * 2 = off + (i + 1) * 2 by omega, c0]; simp [at_]
  · rw [show off + 2 + i * 2 + 1 = off + (i + 1) * 2 + 1 by omega, c1]; simp [at_]

/-- The call hands back one bool, whichever. -/
def IsBool (e : Ending) : Prop := ∃ b : Bool, e = .returned (.bool b)
theorem IsBool.mk (b : Bool) : IsBool (.returned (.bool b)) := ⟨b, rfl⟩

/-- The call hands back whether p holds. -/
def Says (p : Prop) (e : Ending) : Prop := ∃ b : Bool, e = .returned (.bool b) ∧ (b = true ↔ p)
theorem Says.yes {p : Prop} (h : p) : Says p (.returned (.bool true)) := ⟨true, rfl, fun _ => h, fun _ => rfl⟩
theorem Says.no {p : Prop} (h : ¬ p) : Says p (.returned (.bool false)) := ⟨false, rfl, fun k => (by cases k), fun k => absurd k h⟩
theorem Says.is {p : Prop} {b : Bool} (h : b = true ↔ p) : Says p (.returned (.bool b)) := ⟨b, rfl, h⟩

/-- The call hands back one int, whichever. -/
def IsInt (e : Ending) : Prop := ∃ n : Int, e = .returned (.int .i64 n)
theorem IsInt.mk (n : Int) : IsInt (.returned (.int .i64 n)) := ⟨n, rfl⟩

theorem ret_true {p : Prop} [Decidable p] (h : p) : Ending.returned (.bool true) = .returned (.bool (decide p)) := by rw [decide_eq_true h]
theorem ret_false {p : Prop} [Decidable p] (h : ¬ p) : Ending.returned (.bool false) = .returned (.bool (decide p)) := by rw [decide_eq_false h]
theorem ret_int {k : IntKind} {a b : Int} (h : a = b) : Ending.returned (.int k a) = .returned (.int k b) := by rw [h]

set_option maxHeartbeats 400000 in
theorem addElems (a : Option Addr) (cap : Nat) (l : List (ByteArray × Int)) (tot : Int) (w : World) (hl : l.length ≤ 9223372036854775807) (hr : Row w a l) :
    Calls Try.prog 12 #[.int .i64 tot, .slice a l.length cap] w fun e w' => IsInt e ∧ w' = w := by
  go_enter Try.func12, Try.ntmps12
  go_wp2
  go_loop [0, 5] (fun t i => ∃ k : Nat, k ≤ l.length ∧ i = .int .i64 k ∧ ∃ n : Int, t = .int .i64 n) (fun _ i => l.length - (intOf i).toNat)
  case atStart => exact ⟨0, Nat.zero_le _, rfl, _, rfl⟩
  case round =>
    obtain ⟨k, hk, rfl, n, rfl⟩ := hrel
    by_cases hlt : k < l.length
    · obtain ⟨b, off, rfl, c0, c1⟩ := hr k hlt
      clear hr
      go_wp2
      · go_ret
        exact ⟨IsInt.mk _, rfl⟩
      · go_round
        case rel => exact ⟨k + 1, by omega, by go_num, _, rfl⟩
        case measure => simp [intOf]; omega
    · clear hr
      go_wp2
      go_ret
      exact ⟨IsInt.mk _, rfl⟩

end Go.Proofs.Qxb6612745a
