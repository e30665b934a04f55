/- An argument of type []Elem, opened: its pairs. -/
import Derived.Test.Qxb6612745aBase
import Derived.ProofKit
import Derived.OpenShut
import Derived.ShutString
import Derived.ChangeOld
import Derived.Deep.SlicePairs
namespace Go.Proofs.Qxb6612745a
open Go.ChangeShapes Go.WideShapes Go.ChangeAt Go.RowKit

theorem Try.own : ownKnob Try.prog.godebug = none := by kernel_rfl
theorem Try.laidOut : laidOutB Try.prog = true := by kernel_rfl
theorem cells57 : Try.prog.cellsOf 57 = 2 := by kernel_rfl
theorem cells9 : Try.prog.cellsOf 9 = 1 := by kernel_rfl
theorem cells30 : Try.prog.cellsOf 30 = 1 := by kernel_rfl

/-- The string in a cell. -/
def strOf : Value → ByteArray | .string s => s | _ => ByteArray.empty

theorem open_pairs {H : Type} {enc : TypeId × Value → H} {W : World} {base : Nat} {spare : Nat → Bool} {held : Bool} {fuel : Nat} {a : Option Addr} {len cap : Nat} {x : DataW H × List MemPlace}
    (hf : DataW.trod enc Try.prog W base spare held fuel 22 [.slice a len cap] = some x) : ∃ l : List (ByteArray × Int), len = l.length ∧ l.length ≤ maxLen ∧ Row W a l ∧ Pos l := by
  rcases Deep.open_slice_pairs Try.underlying22 Try.underlying57 cells57 rfl rfl cells9 cells30 hf with ⟨hcs, _⟩ | ⟨ad, len', cap', m, n, V0, V1, D0, D1, P0, P1, hcs, _, hl, hm, hmm, _, hcell⟩
  · simp only [List.cons.injEq, Value.slice.injEq, and_true] at hcs
    obtain ⟨rfl, rfl, rfl⟩ := hcs
    exact ⟨[], rfl, Nat.zero_le _, Row.nil _ _, Pos.nil⟩
  · simp only [List.cons.injEq, Value.slice.injEq, and_true] at hcs
    obtain ⟨rfl, rfl, rfl⟩ := hcs
    have hlm : len ≤ m := by rw [hmm]; split <;> omega
    have each : ∀ i, i < len → ∃ (s : ByteArray) (k : Int), V0 i = .string s ∧ V1 i = .int .u64 k ∧ 0 ≤ k := by
      intro i hi
      obtain ⟨_, _, t0, t1⟩ := hcell i (by omega)
      obtain ⟨s, e0, _, _⟩ := DataW.trod_string Try.underlying9 t0
      obtain ⟨k, e1, _, wk⟩ := DataW.trod_int Try.underlying30 t1
      simp only [List.cons.injEq, and_true] at e0 e1
      exact ⟨s, k, e0, e1, (bounds_u64 wk).1⟩
    refine ⟨(List.range len).map fun i => (strOf (V0 i), intOf (V1 i)), by simp, by simp; omega, fun i hi => ?_, fun e he => ?_⟩
    · have hi' : i < len := by simpa using hi
      obtain ⟨s, k, e0, e1, _⟩ := each i hi'
      obtain ⟨c0, c1, _, _⟩ := hcell i (by omega)
      have hsp : ad.spot = none := by
        obtain ⟨z0, _, _, _⟩ := hcell 0 (by omega)
        simp only [Nat.zero_mul, Addr.add, if_pos] at z0
        unfold World.cell? at z0
        split at z0
        · split at z0
          · cases z0
          · rename_i h; simpa using h
        · cases z0
      have hadd : ∀ j, ad.add j = ⟨ad.block, ad.off + j, none⟩ := by
        intro j
        obtain ⟨b, o, sp⟩ := ad
        simp only at hsp
        subst hsp
        unfold Addr.add
        split
        · rename_i h; subst h; rfl
        · rfl
      have hat : at_ ((List.range len).map fun i => (strOf (V0 i), intOf (V1 i))) i = (s, k) := by
        simp [at_, hi', e0, e1, strOf, intOf]
      refine ⟨ad.block, ad.off, ?_, ?_, ?_⟩
      · obtain ⟨b, o, sp⟩ := ad
        simp only at hsp
        subst hsp
        rfl
      · rw [hat, ← hadd]; rw [c0, e0]
      · rw [hat, Nat.add_assoc, ← hadd]; rw [c1, e1]
    · simp only [List.mem_map, List.mem_range] at he
      obtain ⟨i, hi, rfl⟩ := he
      obtain ⟨s, k, e0, e1, hk⟩ := each i hi
      simp [e1, intOf, hk]

end Go.Proofs.Qxb6612745a
