/- slices.Clone at node ids (24) and at ints (29). -/
import Derived.Test.Qxb6612866aNode
import Derived.OwnWalk
import Derived.Lib.Walk
import Derived.Lib.SliceRun
namespace Go.Proofs.Qxb6612866a
open Go.RowKit

theorem fresh_own {w : World} {B : Nat} {t : TypeId} {l : List Int} {v : Value} (h : w.ownsRow B t 1 v l.length (l.map (Value.int .i64))) (hn : v ≠ .slice none 0 0) : Fresh B t l w (.returned v) := by
  obtain ⟨_, h2⟩ := h
  rcases h2 with ⟨hv, _⟩ | ⟨g, cap, cur, rfl, hB, hg, hnc, hcm, hcs, htake⟩
  · exact absurd hv hn
  · refine ⟨g, cap, rfl, hB, ⟨cur, hg, by omega, fun i hi => ?_⟩, hnc⟩
    have h1 : (l.map (Value.int .i64))[i]? = some (.int .i64 (at_ l i)) := by rw [List.getElem?_map, List.getElem?_eq_getElem hi, at_eq l i hi]; rfl
    rw [← htake, List.getElem?_take, if_pos (by omega)] at h1
    simpa using h1

set_option maxHeartbeats 2000000 in
set_option maxRecDepth 100000 in
theorem clone24 (b off c : Nat) (l : List Int) (w : World) (hl : l.length ≤ 1000000) (hr : Row w (some ⟨b, off, none⟩) l) :
    Calls Try.prog 24 #[.slice (some ⟨b, off, none⟩) l.length c] w fun e w' => Fresh w.heap.size 27 l w' e ∧ Below w.heap.size w w' := by
  obtain ⟨i0, hi, hz0, hz1, hz2⟩ := info_parts info27
  have hq : ∀ (w : World) (a : Option Addr) (n c n' c' : Nat), (binOp .eql 28 (.slice a n c) (.slice none n' c')).run Try.prog w = .ok (.bool a.isNone) w := fun w a n c n' c' => Lib.run_eql_slice_nil w _ _ a n c n' c' Try.underlying28
  have A : Hid (Row w (some ⟨b, off, none⟩) l) := hr
  clear hr
  go_enter Try.func24, Try.ntmps24
  go_wp2_with (at_builtin; refine wpList_append_own _ rfl _ _ 28 rfl w.heap.size 27 i0 (.int .i64 0) 1 8 Try.underlying28 hi hz0 hz1 hz2 rfl (by decide) _ _ _ rfl (World.ownsRow_made w #[] 0 (Nat.le_refl _) (Nat.zero_le _) rfl) ⟨b, off, none⟩ l.length c (l.map (Value.int .i64)) rfl ?qc1 ?qc2 ?qc3 ?qc4 ?qc5 ?qc6 ?_)
  case qc1 => simp
  case qc2 =>
    intro j u hj
    have hjn : j < l.length := by
      have := (List.getElem?_eq_some_iff.1 hj).1
      simpa using this
    rw [Addr.add_lit]
    refine Lib.cell?_alloc_some _ ?_
    obtain ⟨b', off', e, hc⟩ := A.out j hjn
    simp only [Option.some.injEq, Addr.mk.injEq, and_true] at e
    obtain ⟨rfl, rfl⟩ := e
    rw [hc, at_eq l j hjn]
    rw [List.getElem?_map, List.getElem?_eq_getElem hjn] at hj
    exact hj
  case qc3 => intro u hu; obtain ⟨x, _, rfl⟩ := List.mem_map.1 hu; rfl
  case qc4 => unfold maxLen; omega
  case qc5 => omega
  case qc6 => simp
  intro v' w1 hown hgrow hnil
  have H1 : Hid (w1.ownsRow w.heap.size 27 1 v' l.length (l.map (Value.int .i64))) := show w1.ownsRow w.heap.size 27 1 v' l.length (l.map (Value.int .i64)) by simpa using hown
  have H2 : Hid (Below w.heap.size w w1) := ((Below.refl _ w).alloc (Nat.le_refl _) _).grown hgrow (by simp) (by intro k hk; simp [Value.ownBlock] at hk; omega)
  have H3 : Hid (v' ≠ .slice none 0 0) := hnil
  clear hown hgrow hnil
  go_wp2
  go_ret
  exact ⟨fresh_own H1.out H3.out, H2.out⟩

set_option maxHeartbeats 2000000 in
set_option maxRecDepth 100000 in
theorem clone29 (b off c : Nat) (l : List Int) (w : World) (hl : l.length ≤ 1000000) (hr : Row w (some ⟨b, off, none⟩) l) :
    Calls Try.prog 29 #[.slice (some ⟨b, off, none⟩) l.length c] w fun e w' => Fresh w.heap.size 3 l w' e ∧ Below w.heap.size w w' := by
  obtain ⟨i0, hi, hz0, hz1, hz2⟩ := info_parts info3
  have hq : ∀ (w : World) (a : Option Addr) (n c n' c' : Nat), (binOp .eql 22 (.slice a n c) (.slice none n' c')).run Try.prog w = .ok (.bool a.isNone) w := fun w a n c n' c' => Lib.run_eql_slice_nil w _ _ a n c n' c' Try.underlying22
  have A : Hid (Row w (some ⟨b, off, none⟩) l) := hr
  clear hr
  go_enter Try.func29, Try.ntmps29
  go_wp2_with (at_builtin; refine wpList_append_own _ rfl _ _ 22 rfl w.heap.size 3 i0 (.int .i64 0) 1 8 Try.underlying22 hi hz0 hz1 hz2 rfl (by decide) _ _ _ rfl (World.ownsRow_made w #[] 0 (Nat.le_refl _) (Nat.zero_le _) rfl) ⟨b, off, none⟩ l.length c (l.map (Value.int .i64)) rfl ?qc1 ?qc2 ?qc3 ?qc4 ?qc5 ?qc6 ?_)
  case qc1 => simp
  case qc2 =>
    intro j u hj
    have hjn : j < l.length := by
      have := (List.getElem?_eq_some_iff.1 hj).1
      simpa using this
    rw [Addr.add_lit]
    refine Lib.cell?_alloc_some _ ?_
    obtain ⟨b', off', e, hc⟩ := A.out j hjn
    simp only [Option.some.injEq, Addr.mk.injEq, and_true] at e
    obtain ⟨rfl, rfl⟩ := e
    rw [hc, at_eq l j hjn]
    rw [List.getElem?_map, List.getElem?_eq_getElem hjn] at hj
    exact hj
  case qc3 => intro u hu; obtain ⟨x, _, rfl⟩ := List.mem_map.1 hu; rfl
  case qc4 => unfold maxLen; omega
  case qc5 => omega
  case qc6 => simp
  intro v' w1 hown hgrow hnil
  have H1 : Hid (w1.ownsRow w.heap.size 3 1 v' l.length (l.map (Value.int .i64))) := show w1.ownsRow w.heap.size 3 1 v' l.length (l.map (Value.int .i64)) by simpa using hown
  have H2 : Hid (Below w.heap.size w w1) := ((Below.refl _ w).alloc (Nat.le_refl _) _).grown hgrow (by simp) (by intro k hk; simp [Value.ownBlock] at hk; omega)
  have H3 : Hid (v' ≠ .slice none 0 0) := hnil
  clear hown hgrow hnil
  go_wp2
  go_ret
  exact ⟨fresh_own H1.out H3.out, H2.out⟩

end Go.Proofs.Qxb6612866a
