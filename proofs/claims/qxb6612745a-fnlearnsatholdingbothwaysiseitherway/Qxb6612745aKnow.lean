/- Entry.knows (42). -/
import Derived.Test.Qxb6612745aVals
import Derived.Deep.CutRange
namespace Go.Proofs.Qxb6612745a
open Go.RowKit

section
variable {o : Oper} {a : Act} {w : World} {K : Act → World → Prop} {Q : Exit → Act → World → Prop}

theorem wp_field3 (x : Operand) (hop : o.op = .fieldAddr 34 x 3) {b : Nat} (hx : a.eval x = .pointer (some ⟨b, 0, none⟩)) (h : K (a.put o.dst (.pointer (some ⟨b, 3, none⟩))) w) : o.wp Try.prog a w K Q := by
  unfold Oper.wp execOp
  simp only [hop, hx, Sem.run_bind, run_field3, Result.andThen_ok, Sem.run_pure]
  exact h

theorem wp_load28 (x : Operand) (hop : o.op = .load 28 x) {b i : Nat} {v : Value} (hx : a.eval x = .pointer (some ⟨b, i, none⟩)) (hc : w.cell? ⟨b, i, none⟩ = some v) (h : K (a.put o.dst v) w) : o.wp Try.prog a w K Q := by
  unfold Oper.wp execOp
  simp only [hop, hx, Sem.run_bind, run_load28 hc, Result.andThen_ok, Sem.run_pure]
  exact h

theorem wp_fieldS (x : Operand) (hop : o.op = .field 34 x 3) {k : Int} {c m s d ds r : Sl} (hx : a.eval x = .agg (ent k c m s d ds r)) (h : K (a.put o.dst (.slice s.a s.n s.cap)) w) : o.wp Try.prog a w K Q := by
  unfold Oper.wp execOp
  simp only [hop, hx, Sem.run_bind, field34S, Result.andThen_ok, Sem.run_pure]
  exact h

theorem wp_assign (x : Operand) (hop : o.op = .assign x) (h : K (a.put o.dst (a.eval x)) w) : o.wp Try.prog a w K Q := by
  unfold Oper.wp execOp
  simp only [hop]
  exact h

theorem wp_pick (c x y : Operand) (hop : o.op = .pick c x y) {b : Bool} (hc : a.eval c = .bool b) (h : K (a.put o.dst (if b then a.eval x else a.eval y)) w) : o.wp Try.prog a w K Q := by
  unfold Oper.wp execOp
  cases b
  · simp only [hop, hc, asBool, Sem.run_bind, Sem.run_pure, Result.andThen_ok, Bool.false_eq_true, if_false] at h ⊢
    exact h
  · simp only [hop, hc, asBool, Sem.run_bind, Sem.run_pure, Result.andThen_ok, if_true] at h ⊢
    exact h

theorem wp_call37 (x y : Operand) (hop : o.op = .call { callee := .value (.func 37), args := #[x, y], argTypes := #[28, 28] }) {s u : Sl} {ls lu : List (ByteArray × Int)} (hx : a.eval x = .slice s.a s.n s.cap) (hy : a.eval y = .slice u.a u.n u.cap)
    (hs : s.has w ls) (hu : u.has w lu) (nl : ls.length ≤ 1000000) (nu : lu.length ≤ 1000000) (sl : Srt ls) (su : Srt lu) (pu : Pos lu)
    (h : ∀ (b : Bool) w', (b = true ↔ LE ls lu) → Below w.heap.size w w' → K (a.put o.dst (.bool b)) w') : o.wp Try.prog a w K Q := by
  unfold Oper.wp
  have he : (execOp a.eval o).run Try.prog w = .ok (.enter 37 #[.slice s.a s.n s.cap, .slice u.a u.n u.cap]) w := by
    rw [run_call_go hop Try.func37 (by kernel_rfl) (by kernel_rfl)]
    simp [hx, hy]
  rw [he]
  refine (leq37s s u ls lu w hs hu nl nu sl su pu).mono ?_
  rintro e w' ⟨⟨b, rfl, hq⟩, hb⟩
  exact h b w' hq hb

theorem wp_call47 (x : Operand) (hop : o.op = .call { callee := .value (.func 47), args := #[x], argTypes := #[34] }) {k : Int} (hk : k = 0 ∨ k = 1 ∨ k = 3) {c m s d ds r : Sl} {ls lds : List (ByteArray × Int)} (hx : a.eval x = .agg (ent k c m s d ds r))
    (hs : s.has w ls) (hds : ds.has w lds) (nl : ls.length ≤ 500000) (nd : lds.length ≤ 500000) (sl : Srt ls) (pl : Pos ls) (sd : Srt lds) (pd : Pos lds)
    (h : ∀ (m' d' s' : Sl) (ls' : List (ByteArray × Int)) w', s'.has w' ls' → IsMax ls lds ls' → ls'.length ≤ ls.length + lds.length → Below w.heap.size w w' → K (a.put o.dst (.agg (ent 0 Sl.nil m' s' d' Sl.nil Sl.nil))) w') : o.wp Try.prog a w K Q := by
  unfold Oper.wp
  have he : (execOp a.eval o).run Try.prog w = .ok (.enter 47 #[.agg (ent k c m s d ds r)]) w := by
    rw [run_call_go hop Try.func47 (by kernel_rfl) (by kernel_rfl)]
    simp [hx]
  rw [he]
  refine (below47 k hk c m s d ds r ls lds w hs hds nl nd sl pl sd pd).mono ?_
  rintro e w' ⟨⟨s', ls', rfl, h1, h2, h3, _⟩, hb⟩
  exact h _ _ s' ls' w' h1 h2 h3 hb
end

/-- e knows all that f knows. -/
def KnowsAll (eS eD fS fD : List (ByteArray × Int)) : Prop := LE fS eS ∧ ∀ s, max (valF fS s) (valF fD s) ≤ max (valF eS s) (valF eD s)

/-- A slice over the maximum of the two. -/
def MaxSl (l l' : List (ByteArray × Int)) (s : Sl) (w : World) : Prop := ∃ m : List (ByteArray × Int), s.has w m ∧ IsMax l l' m ∧ m.length ≤ l.length + l'.length
theorem MaxSl.below {l l' : List (ByteArray × Int)} {s : Sl} {w w' : World} (h : MaxSl l l' s w) (hb : Below w.heap.size w w') : MaxSl l l' s w' := by
  obtain ⟨m, h1, h2⟩ := h
  exact ⟨m, h1.below hb, h2⟩

def S42 (be bf : Nat) (Ee Ef : Array Value) (se sf : Sl) (eS eD fS fD : List (ByteArray × Int)) (i : Nat) (v : Value) (w : World) : Prop :=
  match i with
  | 0 => v = .pointer (some ⟨bf, 3, none⟩)
  | 1 => v = .slice sf.a sf.n sf.cap
  | 2 => v = .pointer (some ⟨be, 3, none⟩)
  | 3 => v = .slice se.a se.n se.cap
  | 4 => ∃ b : Bool, v = .bool b ∧ (b = true ↔ LE fS eS)
  | 5 => ∃ b : Bool, v = .bool b ∧ (b = true ↔ LE fS eS)
  | 6 => LE fS eS → v = .agg Ef
  | 7 => LE fS eS → ∃ m d s : Sl, v = .agg (ent 0 Sl.nil m s d Sl.nil Sl.nil) ∧ MaxSl fS fD s w
  | 8 => LE fS eS → ∃ s : Sl, v = .slice s.a s.n s.cap ∧ MaxSl fS fD s w
  | 9 => LE fS eS → v = .agg Ee
  | 10 => LE fS eS → ∃ m d s : Sl, v = .agg (ent 0 Sl.nil m s d Sl.nil Sl.nil) ∧ MaxSl eS eD s w
  | 11 => LE fS eS → ∃ s : Sl, v = .slice s.a s.n s.cap ∧ MaxSl eS eD s w
  | 12 => LE fS eS → ∃ b : Bool, v = .bool b ∧ (b = true ↔ ∀ s, max (valF fS s) (valF fD s) ≤ max (valF eS s) (valF eD s))
  | 13 => ∃ b : Bool, v = .bool b ∧ (b = true ↔ KnowsAll eS eD fS fD)
  | 14 => ∃ b : Bool, v = .bool b ∧ (b = true ↔ KnowsAll eS eD fS fD)
  | _ => True

theorem stays42 (be bf : Nat) (Ee Ef : Array Value) (se sf : Sl) (eS eD fS fD : List (ByteArray × Int)) (i : Nat) (v : Value) (w w' : World) (h : S42 be bf Ee Ef se sf eS eD fS fD i v w) (hb : Below w.heap.size w w') : S42 be bf Ee Ef se sf eS eD fS fD i v w' := by
  unfold S42 at h ⊢
  split at h
  · exact h
  · exact h
  · exact h
  · exact h
  · exact h
  · exact h
  · exact h
  · intro hl; obtain ⟨m, d, s, e, hs⟩ := h hl; exact ⟨m, d, s, e, hs.below hb⟩
  · intro hl; obtain ⟨s, e, hs⟩ := h hl; exact ⟨s, e, hs.below hb⟩
  · exact h
  · intro hl; obtain ⟨m, d, s, e, hs⟩ := h hl; exact ⟨m, d, s, e, hs.below hb⟩
  · intro hl; obtain ⟨s, e, hs⟩ := h hl; exact ⟨s, e, hs.below hb⟩
  · exact h
  · exact h
  · exact h
  · trivial

def deps42 (i : Nat) : List Nat :=
  match i with
  | 1 => [0]
  | 3 => [2]
  | 4 => [1, 3]
  | 5 => [4]
  | 6 => [5]
  | 7 => [6, 5]
  | 8 => [7, 5]
  | 9 => [5]
  | 10 => [9, 5]
  | 11 => [10, 5]
  | 12 => [8, 11, 5]
  | 13 => [5, 12]
  | 14 => [13]
  | _ => []

set_option maxRecDepth 100000 in
set_option maxHeartbeats 1000000 in
theorem knows42 (ke kf : Int) (hke : ke = 0 ∨ ke = 1 ∨ ke = 3) (hkf : kf = 0 ∨ kf = 1 ∨ kf = 3) (ce me se de dse re cf mf sf df dsf rf : Sl) (eS eD fS fD : List (ByteArray × Int)) (w : World)
    (h1 : se.has w eS) (h2 : dse.has w eD) (h3 : sf.has w fS) (h4 : dsf.has w fD) (n1 : eS.length ≤ 500000) (n2 : eD.length ≤ 500000) (n3 : fS.length ≤ 500000) (n4 : fD.length ≤ 500000)
    (t1 : Srt eS) (t2 : Srt eD) (t3 : Srt fS) (t4 : Srt fD) (p1 : Pos eS) (p2 : Pos eD) (p3 : Pos fS) (p4 : Pos fD) :
    Calls Try.prog 42 #[.agg (ent ke ce me se de dse re), .agg (ent kf cf mf sf df dsf rf)] w fun e w' => Says (KnowsAll eS eD fS fD) e ∧ Below w.heap.size w w' := by
  have HH : Hid ((Srt eS ∧ Srt eD ∧ Srt fS ∧ Srt fD) ∧ (Pos eS ∧ Pos eD ∧ Pos fS ∧ Pos fD) ∧ (ke = 0 ∨ ke = 1 ∨ ke = 3) ∧ (kf = 0 ∨ kf = 1 ∨ kf = 3)) := ⟨⟨t1, t2, t3, t4⟩, ⟨p1, p2, p3, p4⟩, hke, hkf⟩
  clear t1 t2 t3 t4 p1 p2 p3 p4 hke hkf
  go_enter Try.func42, Try.ntmps42
  go_wp2_with ((with_reducible refine stop34 ?_ ?_); · exact rfl)
  refine Stop.go (wpList_box_ent _ (by rfl) (by rfl) (ent ke ce me se de dse re) (by rfl) (One.ent ..) ?_)
  intro be w1 lo1 hi1 he1 hb1
  go_wp2_with ((with_reducible refine stop34 ?_ ?_); · exact rfl)
  refine Stop.go (wpList_box_ent _ (by rfl) (by rfl) (ent kf cf mf sf df dsf rf) (by rfl) (One.ent ..) ?_)
  intro bf w2 lo2 hi2 he2 hb2
  have he1 := he1.below hb2
  have hb02 := hb1.trans (hb2.mono hb1.size)
  have h1 := h1.below hb02
  have h2 := h2.below hb02
  have h3 := h3.below hb02
  have h4 := h4.below hb02
  clear hb1 hb2
  go_upto_region 1 with fail
  obtain ⟨⟨t1, t2, t3, t4⟩, ⟨p1, p2, p3, p4⟩, hke, hkf⟩ := HH.out
  refine wp_region_vals (W := w2) (ds := [5, 6, 7, 8, 9, 10, 11, 12, 13, 14, 15, 16, 17, 18, 4]) (S := S42 be bf (ent ke ce me se de dse re) (ent kf cf mf sf df dsf rf) se sf eS eD fS fD) (deps := deps42)
    (by kernel_rfl) (slotsG_spec (by kernel_rfl)) (by kernel_rfl) (stays42 _ _ _ _ _ _ _ _ _ _) ?_ rfl ?_
  · intro i o ho
    have hi := lt_of_get ho
    have hi : i < 15 := hi
    obtain rfl | rfl | rfl | rfl | rfl | rfl | rfl | rfl | rfl | rfl | rfl | rfl | rfl | rfl | rfl : i = 0 ∨ i = 1 ∨ i = 2 ∨ i = 3 ∨ i = 4 ∨ i = 5 ∨ i = 6 ∨ i = 7 ∨ i = 8 ∨ i = 9 ∨ i = 10 ∨ i = 11 ∨ i = 12 ∨ i = 13 ∨ i = 14 := by omega
    · simp only [List.getElem?_toArray, List.getElem?_cons_zero, Option.some.injEq] at ho; subst ho
      exact ⟨⟨_, rfl⟩, fun a w hk hb hs => wpOp_of rfl rfl (wp_field3 _ rfl ((slot_eval a 3).trans (hk.slot (by decide))) ⟨_, rfl, rfl, Below.refl _ _⟩)⟩
    · simp only [List.getElem?_toArray, List.getElem?_cons_succ, List.getElem?_cons_zero, Option.some.injEq] at ho; subst ho
      exact ⟨⟨_, rfl⟩, fun a w hk hb hs => wpOp_of rfl rfl (wp_load28 _ rfl ((slot_eval a 5).trans (hs 0 (by decide))) ((he2.below hb).cell 3) ⟨_, rfl, rfl, Below.refl _ _⟩)⟩
    · simp only [List.getElem?_toArray, List.getElem?_cons_succ, List.getElem?_cons_zero, Option.some.injEq] at ho; subst ho
      exact ⟨⟨_, rfl⟩, fun a w hk hb hs => wpOp_of rfl rfl (wp_field3 _ rfl ((slot_eval a 2).trans (hk.slot (by decide))) ⟨_, rfl, rfl, Below.refl _ _⟩)⟩
    · simp only [List.getElem?_toArray, List.getElem?_cons_succ, List.getElem?_cons_zero, Option.some.injEq] at ho; subst ho
      exact ⟨⟨_, rfl⟩, fun a w hk hb hs => wpOp_of rfl rfl (wp_load28 _ rfl ((slot_eval a 7).trans (hs 2 (by decide))) ((he1.below hb).cell 3) ⟨_, rfl, rfl, Below.refl _ _⟩)⟩
    · simp only [List.getElem?_toArray, List.getElem?_cons_succ, List.getElem?_cons_zero, Option.some.injEq] at ho; subst ho
      exact ⟨⟨_, rfl⟩, fun a w hk hb hs => wpOp_of rfl rfl (wp_call37 _ _ rfl ((slot_eval a 6).trans (hs 1 (by decide))) ((slot_eval a 8).trans (hs 3 (by decide))) (h3.below hb) (h1.below hb) (by omega) (by omega) t3 t1 p1 fun b w' hq hb' => ⟨_, rfl, ⟨b, rfl, hq⟩, hb'⟩)⟩
    · simp only [List.getElem?_toArray, List.getElem?_cons_succ, List.getElem?_cons_zero, Option.some.injEq] at ho; subst ho
      refine ⟨⟨_, rfl⟩, fun a w hk hb hs => ?_⟩
      obtain ⟨b, e, hq⟩ := hs 4 (by decide)
      exact wpOp_of rfl rfl (wp_move _ rfl ⟨_, rfl, ⟨b, (slot_eval a 9).trans e, hq⟩, Below.refl _ _⟩)
    · simp only [List.getElem?_toArray, List.getElem?_cons_succ, List.getElem?_cons_zero, Option.some.injEq] at ho; subst ho
      refine ⟨⟨_, rfl⟩, fun a w hk hb hs => ?_⟩
      obtain ⟨b, e5, hq⟩ := hs 5 (by decide)
      refine wpOp_guard (d := 10) rfl rfl rfl e5 (fun hy => ?_) (fun hn => ⟨undef, rfl, fun hl => absurd (hq.2 hl) hn, Below.refl _ _⟩)
      have hL : LE fS eS := hq.1 hy
      exact wp_loadEnt _ rfl ((slot_eval a 3).trans (hk.slot (by decide))) (he2.below hb) ⟨_, rfl, fun _ => rfl, Below.refl _ _⟩
    · simp only [List.getElem?_toArray, List.getElem?_cons_succ, List.getElem?_cons_zero, Option.some.injEq] at ho; subst ho
      refine ⟨⟨_, rfl⟩, fun a w hk hb hs => ?_⟩
      obtain ⟨b, e5, hq⟩ := hs 5 (by decide)
      refine wpOp_guard (d := 10) rfl rfl rfl e5 (fun hy => ?_) (fun hn => ⟨undef, rfl, fun hl => absurd (hq.2 hl) hn, Below.refl _ _⟩)
      have hL : LE fS eS := hq.1 hy
      exact wp_call47 _ rfl hkf ((slot_eval a 11).trans (hs 6 (by decide) hL)) (h3.below hb) (h4.below hb) n3 n4 t3 p3 t4 p4 fun m' d' s' ls' w' k1 k2 k3 hb' => ⟨_, rfl, fun _ => ⟨m', d', s', rfl, ls', k1, k2, k3⟩, hb'⟩
    · simp only [List.getElem?_toArray, List.getElem?_cons_succ, List.getElem?_cons_zero, Option.some.injEq] at ho; subst ho
      refine ⟨⟨_, rfl⟩, fun a w hk hb hs => ?_⟩
      obtain ⟨b, e5, hq⟩ := hs 5 (by decide)
      refine wpOp_guard (d := 10) rfl rfl rfl e5 (fun hy => ?_) (fun hn => ⟨undef, rfl, fun hl => absurd (hq.2 hl) hn, Below.refl _ _⟩)
      have hL : LE fS eS := hq.1 hy
      obtain ⟨m', d', s', e, hm⟩ := hs 7 (by decide) hL
      exact wp_fieldS _ rfl ((slot_eval a 12).trans e) ⟨_, rfl, fun _ => ⟨s', rfl, hm⟩, Below.refl _ _⟩
    · simp only [List.getElem?_toArray, List.getElem?_cons_succ, List.getElem?_cons_zero, Option.some.injEq] at ho; subst ho
      refine ⟨⟨_, rfl⟩, fun a w hk hb hs => ?_⟩
      obtain ⟨b, e5, hq⟩ := hs 5 (by decide)
      refine wpOp_guard (d := 10) rfl rfl rfl e5 (fun hy => ?_) (fun hn => ⟨undef, rfl, fun hl => absurd (hq.2 hl) hn, Below.refl _ _⟩)
      have hL : LE fS eS := hq.1 hy
      exact wp_loadEnt _ rfl ((slot_eval a 2).trans (hk.slot (by decide))) (he1.below hb) ⟨_, rfl, fun _ => rfl, Below.refl _ _⟩
    · simp only [List.getElem?_toArray, List.getElem?_cons_succ, List.getElem?_cons_zero, Option.some.injEq] at ho; subst ho
      refine ⟨⟨_, rfl⟩, fun a w hk hb hs => ?_⟩
      obtain ⟨b, e5, hq⟩ := hs 5 (by decide)
      refine wpOp_guard (d := 10) rfl rfl rfl e5 (fun hy => ?_) (fun hn => ⟨undef, rfl, fun hl => absurd (hq.2 hl) hn, Below.refl _ _⟩)
      have hL : LE fS eS := hq.1 hy
      exact wp_call47 _ rfl hke ((slot_eval a 14).trans (hs 9 (by decide) hL)) (h1.below hb) (h2.below hb) n1 n2 t1 p1 t2 p2 fun m' d' s' ls' w' k1 k2 k3 hb' => ⟨_, rfl, fun _ => ⟨m', d', s', rfl, ls', k1, k2, k3⟩, hb'⟩
    · simp only [List.getElem?_toArray, List.getElem?_cons_succ, List.getElem?_cons_zero, Option.some.injEq] at ho; subst ho
      refine ⟨⟨_, rfl⟩, fun a w hk hb hs => ?_⟩
      obtain ⟨b, e5, hq⟩ := hs 5 (by decide)
      refine wpOp_guard (d := 10) rfl rfl rfl e5 (fun hy => ?_) (fun hn => ⟨undef, rfl, fun hl => absurd (hq.2 hl) hn, Below.refl _ _⟩)
      have hL : LE fS eS := hq.1 hy
      obtain ⟨m', d', s', e, hm⟩ := hs 10 (by decide) hL
      exact wp_fieldS _ rfl ((slot_eval a 15).trans e) ⟨_, rfl, fun _ => ⟨s', rfl, hm⟩, Below.refl _ _⟩
    · simp only [List.getElem?_toArray, List.getElem?_cons_succ, List.getElem?_cons_zero, Option.some.injEq] at ho; subst ho
      refine ⟨⟨_, rfl⟩, fun a w hk hb hs => ?_⟩
      obtain ⟨b, e5, hq⟩ := hs 5 (by decide)
      refine wpOp_guard (d := 10) rfl rfl rfl e5 (fun hy => ?_) (fun hn => ⟨undef, rfl, fun hl => absurd (hq.2 hl) hn, Below.refl _ _⟩)
      have hL : LE fS eS := hq.1 hy
      obtain ⟨s, e, l, k1, k2, k3⟩ := hs 8 (by decide) hL
      obtain ⟨s', e', l', k1', k2', k3'⟩ := hs 11 (by decide) hL
      refine wp_call37 _ _ rfl ((slot_eval a 13).trans e) ((slot_eval a 16).trans e') k1 k1' (by omega) (by omega) k2.1 k2'.1 k2'.2.1 fun b w' hq hb' => ⟨_, rfl, fun _ => ⟨b, rfl, hq.trans ⟨fun h s => ?_, fun h s => ?_⟩⟩, hb'⟩
      · have := h s
        rw [k2.2.2, k2'.2.2] at this
        exact this
      · rw [k2.2.2, k2'.2.2]
        exact h s
    · simp only [List.getElem?_toArray, List.getElem?_cons_succ, List.getElem?_cons_zero, Option.some.injEq] at ho; subst ho
      refine ⟨⟨_, rfl⟩, fun a w hk hb hs => ?_⟩
      obtain ⟨b, e5, hq⟩ := hs 5 (by decide)
      refine wpOp_of rfl rfl (wp_pick _ _ _ rfl ((slot_eval a 10).trans e5) ⟨_, rfl, ?_, Below.refl _ _⟩)
      cases b with
      | true =>
        obtain ⟨b', e12, hq'⟩ := hs 12 (by decide) (hq.1 rfl)
        exact ⟨b', (slot_eval a 17).trans e12, fun h => ⟨hq.1 rfl, hq'.1 h⟩, fun h => hq'.2 h.2⟩
      | false => exact ⟨false, rfl, fun h => (by cases h), fun h => hq.2 h.1⟩
    · simp only [List.getElem?_toArray, List.getElem?_cons_succ, List.getElem?_cons_zero, Option.some.injEq] at ho; subst ho
      refine ⟨⟨_, rfl⟩, fun a w hk hb hs => ?_⟩
      obtain ⟨b, e, hq⟩ := hs 13 (by decide)
      exact wpOp_of rfl rfl (wp_assign _ rfl ⟨_, rfl, ⟨b, (slot_eval a 18).trans e, hq⟩, Below.refl _ _⟩)
  · intro a' w' hk hb hS
    obtain ⟨b, e, hq⟩ := hS 14 (by decide)
    have e4 : slot a' 4 = .bool b := e
    have HQ : Hid (b = true ↔ KnowsAll eS eD fS fD) := hq
    have hb0 := hb02.trans (hb.mono hb02.size)
    rw [hk.eq, List.foldl_cons, List.foldl_cons, List.foldl_cons, List.foldl_cons, List.foldl_cons, List.foldl_cons, List.foldl_cons, List.foldl_cons, List.foldl_cons, List.foldl_cons, List.foldl_cons, List.foldl_cons, List.foldl_cons, List.foldl_cons, List.foldl_cons, List.foldl_nil, e4]
    clear hS hq e
    simp only [List.setIfInBounds_toArray, List.set_cons_succ, List.set_cons_zero]
    go_wp2_with fail
    go_ret
    exact ⟨Says.is HQ.out, hb0⟩

end Go.Proofs.Qxb6612745a
