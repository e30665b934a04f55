/- The values of 'Tree{p: dir, q: Entry{Kind: File, M: .., DS: ..}}', for the rule on regions. -/
import Derived.Test.Qxb6612745aOps
namespace Go.Proofs.Qxb6612745a
open Go.RowKit

section
variable {o : Oper} {a : Act} {w : World} {K : Act → World → Prop} {Q : Exit → Act → World → Prop}

theorem build34MD (s u : Sl) (w : World) : (Instr.build 34 #[(0, .int .u8 1), (2, .slice s.a s.n s.cap), (5, .slice u.a u.n u.cap)]).run Try.prog w = .ok (.agg (ent 1 Sl.nil s Sl.nil Sl.nil u Sl.nil)) w := by
  cases s; cases u; kernel_rfl

theorem wp_build34MD (x y : Operand) (hop : o.op = .build 34 #[(0, .const (.int .u8 1)), (2, x), (5, y)]) {s u : Sl} (hx : a.eval x = .slice s.a s.n s.cap) (hy : a.eval y = .slice u.a u.n u.cap) (h : K (a.put o.dst (.agg (ent 1 Sl.nil s Sl.nil Sl.nil u Sl.nil))) w) : o.wp Try.prog a w K Q := by
  unfold Oper.wp execOp
  have : (#[((0 : Nat), Operand.const (.int .u8 1)), (2, x), (5, y)] : Array (Nat × Operand)).map (fun (i, x) => (i, a.eval x)) = #[(0, .int .u8 1), (2, .slice s.a s.n s.cap), (5, .slice u.a u.n u.cap)] := by simp only [List.map_toArray, List.map_cons, List.map_nil, hx, hy]; rfl
  simp only [hop, this, Sem.run_bind, build34MD, Result.andThen_ok, Sem.run_pure]
  exact h
end

/-- What the values are (operations 1, 2, 4 to 9). -/
def S6 (p q : ByteArray) (Ep : Array Value) (x y : Value) (l l' : List (ByteArray × Int)) (i : Nat) (v : Value) (w : World) : Prop :=
  match i with
  | 1 => v = .string p
  | 2 => v = .agg Ep
  | 4 => v = .string q
  | 5 => v = x
  | 6 => ∃ s : Sl, v = .slice s.a s.n s.cap ∧ s.has w l
  | 7 => v = y
  | 8 => ∃ s : Sl, v = .slice s.a s.n s.cap ∧ s.has w l'
  | 9 => ∃ s u : Sl, v = .agg (ent 1 Sl.nil s Sl.nil Sl.nil u Sl.nil) ∧ s.has w l ∧ u.has w l'
  | _ => True

theorem stays6 (p q : ByteArray) (Ep : Array Value) (x y : Value) (l l' : List (ByteArray × Int)) (i : Nat) : Stays (S6 p q Ep x y l l' i) := by
  unfold S6
  constructor
  · intro v w w' h hb
    split
    · exact h
    · exact h
    · exact h
    · exact h
    · obtain ⟨s, e, hs⟩ := h; exact ⟨s, e, hs.below hb⟩
    · exact h
    · obtain ⟨s, e, hs⟩ := h; exact ⟨s, e, hs.below hb⟩
    · obtain ⟨s, u, e, hs, hu⟩ := h; exact ⟨s, u, e, hs.below hb, hu.below hb⟩
    · trivial
  · intro v w w' m f h hm ht
    split
    · exact h
    · exact h
    · exact h
    · exact h
    · obtain ⟨s, e, hs⟩ := h; exact ⟨s, e, hs.mapped hm ht⟩
    · exact h
    · obtain ⟨s, e, hs⟩ := h; exact ⟨s, e, hs.mapped hm ht⟩
    · obtain ⟨s, u, e, hs, hu⟩ := h; exact ⟨s, u, e, hs.mapped hm ht, hu.mapped hm ht⟩
    · trivial

def deps6 (i : Nat) : List Nat :=
  match i with
  | 3 => [0, 1, 2]
  | 6 => [5]
  | 8 => [7]
  | 9 => [6, 8]
  | 10 => [0, 4, 9]
  | 11 => [0]
  | 12 => [11, 0]
  | _ => []

/-- A variable that holds an entry made of two times, over la and lb. -/
def BoxE (mk : Sl → Sl → Array Value) (W : World) (la lb : List (ByteArray × Int)) (v : Value) (w : World) : Prop :=
  ∃ (b : Nat) (c r : Sl), v = .pointer (some ⟨b, 0, none⟩) ∧ Ent w b (mk c r) ∧ c.has w la ∧ r.has w lb ∧ Below W.heap.size W w

/-- A tree of one entry that is known. -/
def TE (E : Array Value) (W : World) (p : ByteArray) (v : Value) (w : World) : Prop :=
  ∃ b : Nat, v = .map (some b) ∧ Maps w b (fun k => if k = p then some (.agg E) else none) ∧ Below W.heap.size W w

/-- A tree of two entries: at p one that is known, at q a file with M over l and DS over l'. -/
def Two6 (W : World) (p q : ByteArray) (Ep : Array Value) (l l' : List (ByteArray × Int)) (v : Value) (w : World) : Prop :=
  ∃ (b : Nat) (s u : Sl), v = .map (some b) ∧ Maps w b (fun k => if k = q then some (.agg (ent 1 Sl.nil s Sl.nil Sl.nil u Sl.nil)) else if k = p then some (.agg Ep) else none) ∧ s.has w l ∧ u.has w l' ∧ Below W.heap.size W w

end Go.Proofs.Qxb6612745a
