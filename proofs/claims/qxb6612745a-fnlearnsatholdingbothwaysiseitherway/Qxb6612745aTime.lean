/- zzTime (14): a fresh vector time, pair for pair. -/
import Derived.Test.Qxb6612745aBase
import Derived.Deep.RegionHeld3
import Derived.Deep.DrawnRows
namespace Go.Proofs.Qxb6612745a
open Go.RowKit

theorem info46 : (Try.prog.info? 46).map (fun i => (i.zero, i.size, i.bytes)) = some (some (.agg #[.string ⟨#[]⟩, .int .u64 0]), 2, 24) := by kernel_rfl

/-- What a new row of n pairs holds. -/
def zeros (n : Nat) : Array Value := madeCells #[.string ⟨#[]⟩, .int .u64 0] (n * 2)
theorem size_zeros (n : Nat) : (zeros n).size = n * 2 := size_madeCells _ _

theorem make28 (l c : Nat) (hl : l ≤ c) (hc : c ≤ 1000000000) (w : World) :
    (Instr.makeSlice 28 (.int .i64 (l : Int)) (.int .i64 (c : Int))).run Try.prog w = .ok (.slice (some ⟨w.heap.size, 0, none⟩) l c) (w.alloc (.cells (zeros c) 46)) := by
  have h := info46
  cases hi : Try.prog.info? 46 with
  | none => rw [hi] at h; simp at h
  | some i =>
    rw [hi] at h
    simp only [Option.map_some, Option.some.injEq, Prod.mk.injEq] at h
    have := run_make (P := Try.prog) w 28 46 i _ Try.underlying28 hi h.1 .i64 .i64 (l : Int) (c : Int) (by omega) (by omega) (by rw [h.2.2]; omega) (by omega)
    rw [this, h.2.1]
    simp [zeros, Value.cells]

/-- Block g is a row of the call's own of n pairs, the first k of them those of l. -/
def Filled (w : World) (g n k : Nat) (l : List (ByteArray × Int)) : Prop :=
  ∃ cur : Array Value, w.heap[g]? = some (.cells cur 46 (0, 0)) ∧ cur.size = n * 2 ∧ ∀ i, i < k → cur[i * 2]? = some (.string (at_ l i).1) ∧ cur[i * 2 + 1]? = some (.int .u64 (at_ l i).2)

theorem Filled.row {w : World} {g : Nat} {l : List (ByteArray × Int)} {n : Nat} (h : Filled w g n l.length l) : Row w (some ⟨g, 0, none⟩) l := by
  obtain ⟨cur, hb, _, hc⟩ := h
  intro i hi
  refine ⟨g, 0, rfl, ?_, ?_⟩
  · simp [World.cell?, hb, (hc i hi).1]
  · simp [World.cell?, hb, (hc i hi).2]

theorem Filled.made (w : World) (n : Nat) (l : List (ByteArray × Int)) : Filled (w.alloc (.cells (zeros n) 46)) w.heap.size n 0 l :=
  ⟨zeros n, by show (w.heap.push _)[w.heap.size]? = _; simp, size_zeros n, fun i hi => absurd hi (by omega)⟩

theorem Filled.step {w : World} {g n k : Nat} {l : List (ByteArray × Int)} (h : Filled w g n k l) (hk : k < n) :
    Filled ((w.setCell ⟨g, k * 2, none⟩ (.string (at_ l k).1)).setCell ⟨g, k * 2 + 1, none⟩ (.int .u64 (at_ l k).2)) g n (k + 1) l := by
  obtain ⟨cur, hb, hs, hc⟩ := h
  refine ⟨(cur.setIfInBounds (k * 2) (.string (at_ l k).1)).setIfInBounds (k * 2 + 1) (.int .u64 (at_ l k).2), ?_, by simp [hs], fun i hi => ?_⟩
  · simp [World.setCell, Array.getElem?_modify, hb]
  · by_cases hik : i = k
    · subst hik
      simp [Array.getElem?_setIfInBounds, hs]
      omega
    · have := hc i (by omega)
      rw [Array.getElem?_setIfInBounds_ne (by omega), Array.getElem?_setIfInBounds_ne (by omega), Array.getElem?_setIfInBounds_ne (by omega), Array.getElem?_setIfInBounds_ne (by omega)]
      exact this

/-- The two cells that are to be written are there, and not frozen. -/
theorem Filled.cells {w : World} {g n k : Nat} {l : List (ByteArray × Int)} (h : Filled w g n k l) (j : Nat) (hj : j < n) :
    (∃ v, w.cell? ⟨g, j * 2, none⟩ = some v) ∧ (∃ v, w.cell? ⟨g, j * 2 + 1, none⟩ = some v) ∧ ∀ o, w.frozen? ⟨g, o, none⟩ = false := by
  obtain ⟨cur, hb, hs, _⟩ := h
  refine ⟨⟨cur[j * 2]'(by omega), ?_⟩, ⟨cur[j * 2 + 1]'(by omega), ?_⟩, fun o => ?_⟩
  · simp [World.cell?, hb]
  · simp [World.cell?, hb]
  · simp [World.frozen?, hb]

/-- The call hands back a slice over the pairs l, in the world w. -/
def Time (l : List (ByteArray × Int)) (w : World) (e : Ending) : Prop := ∃ a cap, e = .returned (.slice a l.length cap) ∧ l.length ≤ cap ∧ Row w a l

set_option maxHeartbeats 1000000 in
theorem time14 (a : Option Addr) (cap : Nat) (l : List (ByteArray × Int)) (w : World) (hl : l.length ≤ 1000000) (hr : Row w a l) :
    Calls Try.prog 14 #[.slice a l.length cap] w fun e w' => Time l w' e ∧ Below w.heap.size w w' := by
  have heq : ∀ w, (binOp .eql 22 (.slice a l.length cap) (.slice none 0 0)).run Try.prog w = .ok (.bool a.isNone) w := fun w => Lib.run_eql_slice_nil w _ _ a _ _ _ _ Try.underlying22
  have hmk := make28 l.length l.length (Nat.le_refl _) (by omega)
  cases hn : a with
  | none =>
    subst hn
    have hl0 : l = [] := by
      cases l with
      | nil => rfl
      | cons e l => obtain ⟨b, off, h, _⟩ := hr 0 (by simp); cases h
    subst hl0
    clear hmk hr
    simp only [List.length_nil] at heq
    show Calls Try.prog 14 #[.slice none 0 cap] w _
    go_enter Try.func14, Try.ntmps14
    go_wp2
    go_ret
    exact ⟨⟨none, 0, rfl, by simp, Row.nil _ _⟩, Below.refl _ _⟩
  | some ad =>
    subst hn
    have hsz : w.heap.size < (w.alloc (.cells (zeros l.length) 46)).heap.size := by simp
    have hst : Below w.heap.size w (w.alloc (.cells (zeros l.length) 46)) := (Below.refl _ _).alloc (Nat.le_refl _) _
    go_enter Try.func14, Try.ntmps14
    go_wp2
    go_loopw [4] (fun i wr => ∃ k : Nat, k ≤ l.length ∧ i = .int .i64 k ∧ Filled wr w.heap.size l.length k l ∧ Below w.heap.size w wr) (fun i _ => l.length - (intOf i).toNat)
    case atStart => exact ⟨0, by omega, rfl, Filled.made w _ l, hst⟩
    case round =>
      clear hsz hst hmk heq
      obtain ⟨k, hk, rfl, HF, hb⟩ := hrel
      by_cases hlt : k < l.length
      · have hrw := hr.below hb
        obtain ⟨b, off, e, c0, c1⟩ := hrw k hlt
        obtain rfl : ad = ⟨b, off, none⟩ := by simpa using e
        obtain ⟨⟨v0, d0⟩, ⟨v1, d1⟩, hfz⟩ := HF.cells k hlt
        have hne : w.heap.size ≠ b := by
          obtain ⟨b', off', e', x0, _⟩ := hr k hlt
          obtain ⟨rfl, rfl⟩ : b = b' ∧ off = off' := by simpa using e'
          exact Nat.ne_of_gt (World.block_lt_of_cell? _ _ x0)
        clear hrw hr e
        have i1 : (0 : Int) ≤ (k : Int) := by omega
        have i2 : (k : Int) < (l.length : Int) := by omega
        go_wp2
        go_region_held3 (fun w' => w'.cell? ⟨b, off + k * 2, none⟩ = some (.string (at_ l k).1) ∧ w'.cell? ⟨b, off + k * 2 + 1, none⟩ = some (.int .u64 (at_ l k).2)) (go_keep) (fail)
        go_wp2
        go_roundw
        case rel =>
          refine ⟨k + 1, by omega, by go_num, HF.step hlt, ?_⟩
          exact ((hb.setCell (Nat.le_refl _) _).setCell (Nat.le_refl _) _).drew
        case measure => simp [intOf]; omega
      · clear hr
        have hk' : k = l.length := by omega
        have HK : Hid (k = l.length) := hk'
        clear hk'
        go_wp2
        go_ret
        refine ⟨⟨_, _, rfl, Nat.le_refl _, ?_⟩, hb⟩
        rw [HK.out] at HF
        exact HF.row

end Go.Proofs.Qxb6612745a
