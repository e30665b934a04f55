/- put (28), ZZowed (16), ZZowedLen (18). -/
import Derived.Test.Qxb6612866aOwed
namespace Go.Proofs.Qxb6612866a
open Go.RowKit

def mpOp : Op → Bool
  | .makeMap 54 _ => true
  | .mapUpdate 54 _ _ _ => true
  | .store 54 _ _ => true
  | _ => false

section
variable {ops : Array Oper} {rest : List Oper} {op : Oper} {a : Act} {w : World} {Q : Exit → Act → World → Prop}
theorem stopM (_ho : mpOp op.op = true) (h : Stop (wpList Try.prog ops Q (op :: rest) a w)) : wpList Try.prog ops Q (op :: rest) a w := h

theorem wpList_makeMap54 (ho : op.op = .makeMap 54 none) (hgd : op.guard = none)
    (h : ∀ m w', w.heap.size ≤ m → Maps w' m 0 (fun _ => none) → Below w.heap.size w w' → wpList Try.prog ops Q rest (a.put op.dst (.map (some m))) w') : wpList Try.prog ops Q (op :: rest) a w := by
  refine wpList_plain hgd fun K hK => ?_
  unfold Oper.wp execOp
  simp only [ho, Sem.run_bind]
  exact hK _ _ (h _ _ (Nat.le_refl _) (maps_made w) ((Below.refl _ _).alloc (Nat.le_refl _) _))

theorem wpList_update54 (x y z : Operand) (ho : op.op = .mapUpdate 54 x y z) (hgd : op.guard = none) {m n : Nat} {f : Int → Option Value} {p : Int} {v : Value} (hx : a.eval x = .map (some m)) (hy : a.eval y = .int .i64 p) (hz : a.eval z = v) (hm : Maps w m n f) (hf : f p = none)
    (h : ∀ w', Maps w' m (n + 1) (fun s => if s = p then some v else f s) → Turned w w' m → wpList Try.prog ops Q rest (a.put op.dst undef) w') : wpList Try.prog ops Q (op :: rest) a w := by
  refine wpList_plain hgd fun K hK => ?_
  obtain ⟨w', hr, h1, h2⟩ := hm.put hf v
  unfold Oper.wp execOp
  simp only [ho, hx, hy, hz, Sem.run_bind, hr, Result.andThen_ok]
  exact hK _ _ (h w' h1 h2)
end

theorem goInt_small (n : Nat) (h : n ≤ 2) : goInt (n : Int) = .int .i64 (n : Int) := by
  have h : n = 0 ∨ n = 1 ∨ n = 2 := by omega
  rcases h with rfl | rfl | rfl <;> rfl

theorem heq54n (w : World) : (binOp .eql 54 (.map none) (.map none)).run Try.prog w = .ok (.bool true) w := by kernel_rfl
theorem heq54s (m : Nat) (w : World) : (binOp .eql 54 (.map (some m)) (.map none)).run Try.prog w = .ok (.bool false) w := by kernel_rfl

set_option maxHeartbeats 400000 in
theorem put28n (bn : Nat) (nb lz un : Value) (p : Int) (x : Option Addr) (k c : Nat) (w : World) (hN : Nd w bn nb lz un (.map none)) :
    Calls Try.prog 28 #[.pointer (some ⟨bn, 17, none⟩), .int .i64 p, .slice x k c] w fun e w' => Done e ∧ ∃ gm, w.heap.size ≤ gm ∧ Nd w' bn nb lz un (.map (some gm)) ∧ Maps w' gm 1 (fun s => if s = p then some (.slice x k c) else none) ∧ Below bn w w' ∧ ∀ j, j < w.heap.size → j ≠ bn → w'.heap[j]? = w.heap[j]? := by
  have c17 := hN.c17
  have hq := heq54n
  go_enter Try.func28, Try.ntmps28
  go_wp2_with ((with_reducible refine stopM ?_ ?_); · exact rfl)
  refine Stop.go (wpList_makeMap54 (by rfl) (by rfl) ?_)
  intro gm w1 hg hm1 hb1
  have hN1 := hN.below hb1
  have hlt := hN.lt
  go_wp2_with ((with_reducible refine stopM ?_ ?_); · exact rfl)
  refine Stop.go (wpList_store1 (v := .map (some gm)) (b := bn) (i := 17) sz54 _ _ (by rfl) (by rfl) (by rfl) (by rfl) rfl rfl hN1.c17 (hN1.frozen 17) ?_)
  intro w2 hw2
  have ht2 : Turned w1 w2 bn := by rw [hw2]; exact setCell_turned ..
  have hN2 : Nd w2 bn nb lz un (.map (some gm)) := by rw [hw2]; exact hN1.set17 _
  have hm2 := hm1.of_block (ht2.block gm (by omega))
  have x2 := hN2.c17
  clear hw2
  go_wp2_with ((with_reducible refine stopM ?_ ?_); · exact rfl)
  refine Stop.go (wpList_update54 _ _ _ (by rfl) (by rfl) (by rfl) (by rfl) (by rfl) hm2 rfl ?_)
  intro w3 hm3 ht3
  have H : Hid (∃ gm, w.heap.size ≤ gm ∧ Nd w3 bn nb lz un (.map (some gm)) ∧ Maps w3 gm 1 (fun s => if s = p then some (.slice x k c) else none) ∧ Below bn w w3 ∧ ∀ j, j < w.heap.size → j ≠ bn → w3.heap[j]? = w.heap[j]?) :=
    ⟨gm, hg, hN2.turned ht3 (by omega), hm3, ((hb1.mono (by omega)).trans (ht2.below (Nat.le_refl _))).trans (ht3.below (by omega)), fun j h1 h2 => ((ht3.block j (by omega)).trans (ht2.block j h2)).trans (hb1.block j h1)⟩
  clear hm3 ht3 hm2 ht2 hN2 x2 hN1 hm1 hb1 c17 hN
  go_wp2_with fail
  first | (refine bodyPost_ret (results_none rfl _ _ _) rfl ?_) | ((try simp only [Exit.inBlock, Exit.then]); refine bodyPost_end (results_none rfl _ _ _) rfl ?_)
  exact ⟨rfl, H.out⟩

set_option maxHeartbeats 400000 in
theorem put28s (bn gm n : Nat) (nb lz un : Value) (f : Int → Option Value) (p : Int) (x : Option Addr) (k c : Nat) (w : World) (hN : Nd w bn nb lz un (.map (some gm))) (hm : Maps w gm n f) (hf : f p = none) :
    Calls Try.prog 28 #[.pointer (some ⟨bn, 17, none⟩), .int .i64 p, .slice x k c] w fun e w' => Done e ∧ Maps w' gm (n + 1) (fun s => if s = p then some (.slice x k c) else f s) ∧ Turned w w' gm := by
  have c17 := hN.c17
  have hq := heq54s gm
  have HF : Hid (f p = none) := hf
  clear hf
  go_enter Try.func28, Try.ntmps28
  go_wp2_with ((with_reducible refine stopM ?_ ?_); · exact rfl)
  refine Stop.go (wpList_update54 _ _ _ (by rfl) (by rfl) (by rfl) (by rfl) (by rfl) hm HF.out ?_)
  intro w3 hm3 ht3
  have H : Hid (Maps w3 gm (n + 1) (fun s => if s = p then some (.slice x k c) else f s) ∧ Turned w w3 gm) := ⟨hm3, ht3⟩
  clear hm3 ht3 hm c17 hN
  go_wp2_with fail
  first | (refine bodyPost_ret (results_none rfl _ _ _) rfl ?_) | ((try simp only [Exit.inBlock, Exit.then]); refine bodyPost_end (results_none rfl _ _ _) rfl ?_)
  exact ⟨rfl, H.out⟩

set_option maxRecDepth 100000 in
set_option maxHeartbeats 400000 in
theorem owedLen18n (bn : Nat) (nb lz un : Value) (w : World) (hN : Nd w bn nb lz un (.map none)) :
    Calls Try.prog 18 #[.pointer (some ⟨bn, 0, none⟩)] w fun e w' => e = .returned (.int .i64 0) ∧ w' = w := by
  have c17 := hN.c17
  go_enter Try.func18, Try.ntmps18
  go_wp2_with fail
  go_ret
  exact ⟨rfl, rfl⟩

set_option maxRecDepth 100000 in
set_option maxHeartbeats 400000 in
theorem owedLen18s (bn gm n : Nat) (nb lz un : Value) (f : Int → Option Value) (w : World) (hN : Nd w bn nb lz un (.map (some gm))) (hm : Maps w gm n f) (hn0 : n ≤ 2) :
    Calls Try.prog 18 #[.pointer (some ⟨bn, 0, none⟩)] w fun e w' => e = .returned (.int .i64 n) ∧ w' = w := by
  have c17 := hN.c17
  obtain ⟨es, clock, h0, hn, _⟩ := hm
  have hgo := MapKept.run_getObj_map (P := Try.prog) h0
  have hln : (Builtin.len_ #[54] 3 #[.map (some gm)]).run Try.prog w = .ok (.int .i64 (n : Int)) w := by
    rw [← hn]
    simp [Builtin.len_, run_underlying Try.underlying54, hgo]
    rw [hn]
    exact goInt_small n hn0
  clear hgo h0 hn
  go_enter Try.func18, Try.ntmps18
  go_wp2_with fail
  go_ret
  exact ⟨rfl, rfl⟩

set_option maxRecDepth 100000 in
set_option maxHeartbeats 400000 in
theorem owed16n (bn : Nat) (nb lz un : Value) (p : Int) (w : World) (hN : Nd w bn nb lz un (.map none)) :
    Calls Try.prog 16 #[.pointer (some ⟨bn, 0, none⟩), .int .i64 p] w fun e w' => e = .returned (.tuple #[.slice none 0 0, .bool false]) ∧ w' = w := by
  have c17 := hN.c17
  have hlk : ∀ w, (Instr.lookup 54 (.map none) (.int .i64 p) true).run Try.prog w = .ok (.tuple #[.slice none 0 0, .bool false]) w := fun w => by kernel_rfl
  go_enter Try.func16, Try.ntmps16
  go_wp2_with fail
  go_ret2
  exact ⟨rfl, rfl⟩

set_option maxRecDepth 100000 in
set_option maxHeartbeats 400000 in
theorem owed16s (bn gm n : Nat) (nb lz un : Value) (f : Int → Option Value) (p : Int) (w : World) (hN : Nd w bn nb lz un (.map (some gm))) (hm : Maps w gm n f) :
    Calls Try.prog 16 #[.pointer (some ⟨bn, 0, none⟩), .int .i64 p] w fun e w' => e = .returned (.tuple #[(f p).getD (.slice none 0 0), .bool (f p).isSome]) ∧ w' = w := by
  have c17 := hN.c17
  have hlk := hm.look p
  go_enter Try.func16, Try.ntmps16
  go_wp2_with fail
  go_ret2
  exact ⟨rfl, rfl⟩

end Go.Proofs.Qxb6612866a
