/- Single operations, at whatever frame: for the rule on regions. -/
import Derived.Test.Qxb6612745aTwo
import Derived.Test.Qxb6612745aBelow
import Derived.Test.Qxb6612745aLit
namespace Go.Proofs.Qxb6612745a
open Go.RowKit

theorem time14s (a : Option Addr) (cap : Nat) (l : List (ByteArray × Int)) (w : World) (hl : l.length ≤ 1000000) (hr : Row w a l) :
    Calls Try.prog 14 #[.slice a l.length cap] w fun e w' => Gives l w' e ∧ Below w.heap.size w w' :=
  (time14 a cap l w hl hr).mono fun _ _ ⟨h, hb⟩ => ⟨h.gives, hb⟩

section
variable {o : Oper} {a : Act} {w : World} {K : Act → World → Prop} {Q : Exit → Act → World → Prop}

theorem wp_move (x : Operand) (hop : o.op = .move x) (h : K (a.put o.dst (a.eval x)) w) : o.wp Try.prog a w K Q := by
  unfold Oper.wp execOp
  simp only [hop]
  exact h

theorem wp_loadEnt (x : Operand) (hop : o.op = .load 34 x) {b : Nat} {E : Array Value} (hx : a.eval x = .pointer (some ⟨b, 0, none⟩)) (hE : Ent w b E) (h : K (a.put o.dst (.agg E)) w) : o.wp Try.prog a w K Q := by
  unfold Oper.wp execOp
  simp only [hop, hx, Instr.loadAt, Instr.sureAddr, Sem.run_bind, Sem.run_pure, Result.andThen_ok, run_load_ent hE]
  exact h

theorem run_call_go {f : FuncId} {fn : Func} {args : Array Operand} {ats : Array TypeId} (hop : o.op = .call { callee := .value (.func f), args, argTypes := ats })
    (hf : Try.prog.funcs[f]? = some fn) (hname : (fn.name == "runtime.NumGoroutine") = false) (hb : fn.body.isNone = false) : (execOp a.eval o).run Try.prog w = .ok (.enter f (args.map a.eval)) w := by
  have h1 : ¬ fn.name = "runtime.NumGoroutine" := by simpa using hname
  have h2 : ¬ fn.body = none := by cases hx : fn.body <;> simp_all
  unfold execOp
  simp [hop, resolve, Deferred.ofValue, invoke, callFunc, hf, h1, h2, Act.eval]

theorem wp_call14 (x : Operand) (hop : o.op = .call { callee := .value (.func 14), args := #[x], argTypes := #[22] }) {a3 : Option Addr} {l : List (ByteArray × Int)} {c : Nat} (hx : a.eval x = .slice a3 l.length c) (hl : l.length ≤ 1000000) (hr : Row w a3 l)
    (h : ∀ (s : Sl) w', s.has w' l → Below w.heap.size w w' → K (a.put o.dst (.slice s.a s.n s.cap)) w') : o.wp Try.prog a w K Q := by
  unfold Oper.wp
  have he : (execOp a.eval o).run Try.prog w = .ok (.enter 14 #[.slice a3 l.length c]) w := by
    rw [run_call_go hop Try.func14 (by kernel_rfl) (by kernel_rfl)]
    simp [hx]
  rw [he]
  refine (time14s a3 c l w hl hr).mono ?_
  rintro e w' ⟨⟨s, rfl, hs⟩, hb⟩
  exact h s w' hs hb

theorem build34C (s : Sl) (w : World) : (Instr.build 34 #[(0, .int .u8 1), (1, .slice s.a s.n s.cap)]).run Try.prog w = .ok (.agg (ent 1 s Sl.nil Sl.nil Sl.nil Sl.nil Sl.nil)) w := by
  cases s; kernel_rfl

theorem build34R (s : Sl) (w : World) : (Instr.build 34 #[(0, .int .u8 1), (10, .slice s.a s.n s.cap)]).run Try.prog w = .ok (.agg (ent 1 Sl.nil Sl.nil Sl.nil Sl.nil Sl.nil s)) w := by
  cases s; kernel_rfl

theorem wp_build34C (x : Operand) (hop : o.op = .build 34 #[(0, .const (.int .u8 1)), (1, x)]) {s : Sl} (hx : a.eval x = .slice s.a s.n s.cap) (h : K (a.put o.dst (.agg (ent 1 s Sl.nil Sl.nil Sl.nil Sl.nil Sl.nil))) w) : o.wp Try.prog a w K Q := by
  unfold Oper.wp execOp
  have : (#[((0 : Nat), Operand.const (.int .u8 1)), (1, x)] : Array (Nat × Operand)).map (fun (i, x) => (i, a.eval x)) = #[(0, .int .u8 1), (1, .slice s.a s.n s.cap)] := by simp only [List.map_toArray, List.map_cons, List.map_nil, hx]; rfl
  simp only [hop, this, Sem.run_bind, build34C, Result.andThen_ok, Sem.run_pure]
  exact h

theorem wp_build34R (x : Operand) (hop : o.op = .build 34 #[(0, .const (.int .u8 1)), (10, x)]) {s : Sl} (hx : a.eval x = .slice s.a s.n s.cap) (h : K (a.put o.dst (.agg (ent 1 Sl.nil Sl.nil Sl.nil Sl.nil Sl.nil s))) w) : o.wp Try.prog a w K Q := by
  unfold Oper.wp execOp
  have : (#[((0 : Nat), Operand.const (.int .u8 1)), (10, x)] : Array (Nat × Operand)).map (fun (i, x) => (i, a.eval x)) = #[(0, .int .u8 1), (10, .slice s.a s.n s.cap)] := by simp only [List.map_toArray, List.map_cons, List.map_nil, hx]; rfl
  simp only [hop, this, Sem.run_bind, build34R, Result.andThen_ok, Sem.run_pure]
  exact h
end

theorem Sl.has.mapped {s : Sl} {w w' : World} {l : List (ByteArray × Int)} {m : Nat} {f : ByteArray → Option Value} (h : s.has w l) (hm : Maps w m f) (ht : Turned w w' m) : s.has w' l := ⟨h.1, h.2.1, hm.row ht h.2.2⟩

/-- The entry of a file with C (or R) only. -/
def entQ (onR : Bool) (s : Sl) : Array Value := if onR then ent 1 Sl.nil Sl.nil Sl.nil Sl.nil Sl.nil s else ent 1 s Sl.nil Sl.nil Sl.nil Sl.nil Sl.nil

/-- What the values of 'Tree{p: e, q: Entry{Kind: File, C: zzTime(x)}}' are (operations 1, 2, 4, 5, 6, 7). -/
def S2 (p q : ByteArray) (Ep : Array Value) (x : Value) (l : List (ByteArray × Int)) (onR : Bool) (i : Nat) (v : Value) (w : World) : Prop :=
  match i with
  | 1 => v = .string p
  | 2 => v = .agg Ep
  | 4 => v = .string q
  | 5 => v = x
  | 6 => ∃ s : Sl, v = .slice s.a s.n s.cap ∧ s.has w l
  | 7 => ∃ s : Sl, v = .agg (entQ onR s) ∧ s.has w l
  | _ => True

theorem stays2 (p q : ByteArray) (Ep : Array Value) (x : Value) (l : List (ByteArray × Int)) (onR : Bool) (i : Nat) : Stays (S2 p q Ep x l onR i) := by
  unfold S2
  constructor
  · intro v w w' h hb
    split
    · exact h
    · exact h
    · exact h
    · exact h
    · obtain ⟨s, e, hs⟩ := h; exact ⟨s, e, hs.below hb⟩
    · obtain ⟨s, e, hs⟩ := h; exact ⟨s, e, hs.below hb⟩
    · trivial
  · intro v w w' m f h hm ht
    split
    · exact h
    · exact h
    · exact h
    · exact h
    · obtain ⟨s, e, hs⟩ := h; exact ⟨s, e, hs.mapped hm ht⟩
    · obtain ⟨s, e, hs⟩ := h; exact ⟨s, e, hs.mapped hm ht⟩
    · trivial

def deps2 (i : Nat) : List Nat :=
  match i with
  | 3 => [0, 1, 2]
  | 6 => [5]
  | 7 => [6]
  | 8 => [0, 4, 7]
  | 9 => [0]
  | 10 => [9, 0]
  | _ => []

end Go.Proofs.Qxb6612745a
