/- zzTime (14) once more, with what the slice it hands back owns: for the append of the second law. -/
import Derived.Test.Qxb6612745aBelow
import Derived.Deep.AppendLies
namespace Go.Proofs.Qxb6612745a
open Go.RowKit

/-- The cells of a list of pairs. -/
def cellsOf (l : List (ByteArray × Int)) : List Value := l.flatMap fun e => [.string e.1, .int .u64 e.2]

theorem cellsOf_length (l : List (ByteArray × Int)) : (cellsOf l).length = l.length * 2 := by
  induction l with
  | nil => rfl
  | cons e l ih => simp [cellsOf] at ih ⊢; omega

theorem cellsOf_get : ∀ (l : List (ByteArray × Int)) (i : Nat), i < l.length → (cellsOf l)[i * 2]? = some (.string (at_ l i).1) ∧ (cellsOf l)[i * 2 + 1]? = some (.int .u64 (at_ l i).2)
  | [], i, h => absurd h (by simp)
  | e :: l, 0, _ => ⟨rfl, rfl⟩
  | e :: l, i + 1, h => by
    have := cellsOf_get l i (by simpa using h)
    rw [show (i + 1) * 2 = i * 2 + 2 by omega]
    exact this

theorem cellsOf_snoc (l : List (ByteArray × Int)) (e : ByteArray × Int) : cellsOf (l ++ [e]) = cellsOf l ++ [.string e.1, .int .u64 e.2] := by
  simp [cellsOf]

theorem Filled.own {w : World} {g B : Nat} {l : List (ByteArray × Int)} (h : Filled w g l.length l.length l) (hB : B ≤ g) (hl : l.length ≤ 1000000) :
    w.ownsRow B 46 2 (.slice (some ⟨g, 0, none⟩) l.length l.length) l.length (cellsOf l) := by
  obtain ⟨cur, hg, hs, hc⟩ := h
  refine ⟨cellsOf_length l, Or.inr ⟨g, l.length, cur, rfl, hB, hg, Nat.le_refl _, by unfold maxLen; omega, hs, ?_⟩⟩
  rw [List.take_of_length_le (by simp [hs])]
  refine List.ext_getElem? fun j => ?_
  rcases Nat.lt_or_ge j (l.length * 2) with hj | hj
  · obtain ⟨i, hi⟩ : ∃ i, j = i * 2 ∨ j = i * 2 + 1 := ⟨j / 2, by omega⟩
    have hil : i < l.length := by omega
    have a := hc i hil
    have b := cellsOf_get l i hil
    rcases hi with rfl | rfl
    · rw [b.1]; simpa using a.1
    · rw [b.2]; simpa using a.2
  · rw [List.getElem?_eq_none (by simp [hs]; omega), List.getElem?_eq_none (by rw [cellsOf_length]; omega)]

/-- A slice that owns the cells of l leads to the pairs l. -/
theorem own_has {w : World} {B n cap : Nat} {a : Option Addr} {l : List (ByteArray × Int)} (h : w.ownsRow B 46 2 (.slice a n cap) n (cellsOf l)) (hn : n = l.length) : (⟨a, n, cap⟩ : Sl).has w l := by
  obtain ⟨_, h2⟩ := h
  rcases h2 with ⟨hv, h0⟩ | ⟨g, cap', cur, hv, hB, hg, hnc, hcm, hcs, htake⟩
  · simp only [Value.slice.injEq] at hv
    obtain ⟨rfl, rfl, rfl⟩ := hv
    have : l = [] := by cases l with | nil => rfl | cons x l => simp at hn
    subst this
    exact ⟨rfl, Nat.le_refl _, Row.nil _ _⟩
  · simp only [Value.slice.injEq] at hv
    obtain ⟨rfl, _, rfl⟩ := hv
    refine ⟨hn, hnc, fun i hi => ⟨g, 0, rfl, ?_, ?_⟩⟩
    · have := (cellsOf_get l i hi).1
      rw [← htake, List.getElem?_take, if_pos (by omega)] at this
      simpa [World.cell?, hg] using this
    · have := (cellsOf_get l i hi).2
      rw [← htake, List.getElem?_take, if_pos (by omega)] at this
      simpa [World.cell?, hg] using this

/-- The call hands back a slice that owns the pairs l, in memory from block B on. -/
def Owns (l : List (ByteArray × Int)) (B : Nat) (w : World) (e : Ending) : Prop := ∃ a cap, e = .returned (.slice a l.length cap) ∧ w.ownsRow B 46 2 (.slice a l.length cap) l.length (cellsOf l)

set_option maxHeartbeats 1000000 in
theorem time14o (a : Option Addr) (cap : Nat) (l : List (ByteArray × Int)) (w : World) (hl : l.length ≤ 1000000) (hr : Row w a l) :
    Calls Try.prog 14 #[.slice a l.length cap] w fun e w' => Owns l w.heap.size w' e ∧ Below w.heap.size w w' := by
  have heq : ∀ w, (binOp .eql 22 (.slice a l.length cap) (.slice none 0 0)).run Try.prog w = .ok (.bool a.isNone) w := fun w => Lib.run_eql_slice_nil w _ _ a _ _ _ _ Try.underlying22
  have hmk := make28 l.length l.length (Nat.le_refl _) (by omega)
  cases hn : a with
  | none =>
    subst hn
    have hl0 : l = [] := by
      cases l with
      | nil => rfl
      | cons e l => obtain ⟨b, off, h, _⟩ := hr 0 (by simp); cases h
    subst hl0
    clear hmk hr
    simp only [List.length_nil] at heq
    show Calls Try.prog 14 #[.slice none 0 cap] w _
    go_enter Try.func14, Try.ntmps14
    go_wp2
    go_ret
    exact ⟨⟨none, 0, rfl, World.ownsRow_nil _ _ _ _⟩, Below.refl _ _⟩
  | some ad =>
    subst hn
    have hsz : w.heap.size < (w.alloc (.cells (zeros l.length) 46)).heap.size := by simp
    have hst : Below w.heap.size w (w.alloc (.cells (zeros l.length) 46)) := (Below.refl _ _).alloc (Nat.le_refl _) _
    go_enter Try.func14, Try.ntmps14
    go_wp2
    go_loopw [4] (fun i wr => ∃ k : Nat, k ≤ l.length ∧ i = .int .i64 k ∧ Filled wr w.heap.size l.length k l ∧ Below w.heap.size w wr) (fun i _ => l.length - (intOf i).toNat)
    case atStart => exact ⟨0, by omega, rfl, Filled.made w _ l, hst⟩
    case round =>
      clear hsz hst hmk heq
      obtain ⟨k, hk, rfl, HF, hb⟩ := hrel
      by_cases hlt : k < l.length
      · have hrw := hr.below hb
        obtain ⟨b, off, e, c0, c1⟩ := hrw k hlt
        obtain rfl : ad = ⟨b, off, none⟩ := by simpa using e
        obtain ⟨⟨v0, d0⟩, ⟨v1, d1⟩, hfz⟩ := HF.cells k hlt
        have hne : w.heap.size ≠ b := by
          obtain ⟨b', off', e', x0, _⟩ := hr k hlt
          obtain ⟨rfl, rfl⟩ : b = b' ∧ off = off' := by simpa using e'
          exact Nat.ne_of_gt (World.block_lt_of_cell? _ _ x0)
        clear hrw hr e
        have i1 : (0 : Int) ≤ (k : Int) := by omega
        have i2 : (k : Int) < (l.length : Int) := by omega
        go_wp2
        go_region_held3 (fun w' => w'.cell? ⟨b, off + k * 2, none⟩ = some (.string (at_ l k).1) ∧ w'.cell? ⟨b, off + k * 2 + 1, none⟩ = some (.int .u64 (at_ l k).2)) (go_keep) (fail)
        go_wp2
        go_roundw
        case rel =>
          refine ⟨k + 1, by omega, by go_num, HF.step hlt, ?_⟩
          exact ((hb.setCell (Nat.le_refl _) _).setCell (Nat.le_refl _) _).drew
        case measure => simp [intOf]; omega
      · clear hr
        have hk' : k = l.length := by omega
        have HK : Hid (k = l.length) := hk'
        clear hk'
        go_wp2
        go_ret
        refine ⟨⟨_, _, rfl, ?_⟩, hb⟩
        rw [HK.out] at HF
        exact HF.own (Nat.le_refl _) (by omega)

end Go.Proofs.Qxb6612745a
