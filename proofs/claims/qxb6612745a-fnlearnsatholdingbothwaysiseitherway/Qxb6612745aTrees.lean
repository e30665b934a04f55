/- What a tree of one entry is, as the laws lay it. -/
import Derived.Test.Qxb6612745aOps
namespace Go.Proofs.Qxb6612745a
open Go.RowKit

/-- A tree of one entry at p, made of two times, over la and lb. -/
def T2 (mk : Sl → Sl → Array Value) (W : World) (p : ByteArray) (la lb : List (ByteArray × Int)) (v : Value) (w : World) : Prop :=
  ∃ (b : Nat) (c r : Sl), v = .map (some b) ∧ Maps w b (fun k => if k = p then some (.agg (mk c r)) else none) ∧ c.has w la ∧ r.has w lb ∧ Below W.heap.size W w

/-- A tree of one entry at p, made of one time, over la. -/
def T1 (mk : Sl → Array Value) (W : World) (p : ByteArray) (la : List (ByteArray × Int)) (v : Value) (w : World) : Prop :=
  ∃ (b : Nat) (c : Sl), v = .map (some b) ∧ Maps w b (fun k => if k = p then some (.agg (mk c)) else none) ∧ c.has w la ∧ Below W.heap.size W w

/-- A tree of one entry at p, made of the maximum of two times. -/
def TM (mk : Sl → Array Value) (W : World) (p : ByteArray) (la lb : List (ByteArray × Int)) (v : Value) (w : World) : Prop :=
  ∃ (b : Nat) (c : Sl) (l : List (ByteArray × Int)), v = .map (some b) ∧ Maps w b (fun k => if k = p then some (.agg (mk c)) else none) ∧ c.has w l ∧ IsMax la lb l ∧ l.length ≤ la.length + lb.length ∧ Below W.heap.size W w

/-- A tree of one entry at p, made of two maxima. -/
def TMM (mk : Sl → Sl → Array Value) (W : World) (p : ByteArray) (la lb lc ld : List (ByteArray × Int)) (v : Value) (w : World) : Prop :=
  ∃ (b : Nat) (c r : Sl) (l l' : List (ByteArray × Int)), v = .map (some b) ∧ Maps w b (fun k => if k = p then some (.agg (mk c r)) else none) ∧ c.has w l ∧ r.has w l' ∧ IsMax la lb l ∧ IsMax lc ld l' ∧ l.length ≤ la.length + lb.length ∧ l'.length ≤ lc.length + ld.length ∧ Below W.heap.size W w

end Go.Proofs.Qxb6612745a
