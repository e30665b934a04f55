/- learnsAt (35), where a conflict holds, and its door (15). -/
import Derived.Test.Qxb6612745aPair
import Derived.Deep.CutRange
namespace Go.Proofs.Qxb6612745a
open Go.RowKit

/-- An entry whose S is over S and whose DS is over D, both in order. -/
def KE (w : World) (E : Array Value) (S D : List (ByteArray × Int)) : Prop :=
  ∃ (k : Int) (c m s d ds r : Sl), (k = 0 ∨ k = 1 ∨ k = 3) ∧ E = ent k c m s d ds r ∧ s.has w S ∧ ds.has w D ∧ (S.length ≤ 500000 ∧ D.length ≤ 500000) ∧ (Srt S ∧ Srt D) ∧ Pos S ∧ Pos D

theorem KE.below {w w' : World} {E : Array Value} {S D : List (ByteArray × Int)} (h : KE w E S D) (hb : Below w.heap.size w w') : KE w' E S D := by
  obtain ⟨k, c, m, s, d, ds, r, h1, h2, h3, h4, h5⟩ := h
  exact ⟨k, c, m, s, d, ds, r, h1, h2, h3.below hb, h4.below hb, h5⟩

theorem KE.one {w : World} {E : Array Value} {S D : List (ByteArray × Int)} (h : KE w E S D) : One E := by
  obtain ⟨k, c, m, s, d, ds, r, h1, h2, _⟩ := h
  rw [h2]; exact One.ent ..

theorem KE.zero (w : World) : KE w ent0 [] [] :=
  ⟨0, Sl.nil, Sl.nil, Sl.nil, Sl.nil, Sl.nil, Sl.nil, Or.inl rfl, rfl, Sl.has.nil _, Sl.has.nil _, ⟨by simp, by simp⟩, ⟨List.Pairwise.nil, List.Pairwise.nil⟩, Pos.nil, Pos.nil⟩

theorem knows42k (Ee Ef : Array Value) (eS eD fS fD : List (ByteArray × Int)) (w : World) (he : KE w Ee eS eD) (hf : KE w Ef fS fD) :
    Calls Try.prog 42 #[.agg Ee, .agg Ef] w fun e w' => Says (KnowsAll eS eD fS fD) e ∧ Below w.heap.size w w' := by
  obtain ⟨k, c, m, s, d, ds, r, h1, rfl, h3, h4, h5, h6, h7⟩ := he
  obtain ⟨k', c', m', s', d', ds', r', h1', rfl, h3', h4', h5', h6', h7'⟩ := hf
  exact knows42 k k' h1 h1' c m s d ds r c' m' s' d' ds' r' eS eD fS fD w h3 h4 h3' h4' h5.1 h5.2 h5'.1 h5'.2 h6.1 h6.2 h6'.1 h6'.2 h7.1 h7.2 h7'.1 h7'.2

/-- What learnsAt says. -/
def Learns (both : Bool) (aS aD bS bD : List (ByteArray × Int)) : Prop := ¬ KnowsAll bS bD aS aD ∨ (both = true ∧ ¬ KnowsAll aS aD bS bD)

def X35 (bw ma mb : Nat) (p : ByteArray) (Ea Eb : Array Value) (i : Nat) : Value :=
  match i with
  | 0 => .pointer (some ⟨bw, 0, none⟩)
  | 1 => .pointer (some ⟨bw, 0, none⟩)
  | 2 => .pointer (some ⟨bw, 0, none⟩)
  | 3 => .map (some ma)
  | 4 => .string p
  | 5 => .agg Ea
  | 6 => .pointer (some ⟨bw, 0, none⟩)
  | 7 => .pointer (some ⟨bw, 0, none⟩)
  | 8 => .pointer (some ⟨bw, 1, none⟩)
  | 9 => .map (some mb)
  | 10 => .string p
  | 11 => .agg Eb
  | _ => undef

def deps35 (i : Nat) : List Nat :=
  match i with
  | 1 => [0]
  | 2 => [1]
  | 3 => [2]
  | 5 => [3, 4]
  | 7 => [6]
  | 8 => [7]
  | 9 => [8]
  | 11 => [9, 10]
  | 14 => [12, 5]
  | 15 => [13, 11]
  | _ => []

section
variable {ops : Array Oper} {rest : List Oper} {op : Oper} {a : Act} {w : World} {Q : Exit → Act → World → Prop}
theorem wpList_load_ent_yes (x : Operand) (ho : op.op = .load 34 x) (hw : Region.wanted op (yielded ops a.tmps) = true) {b : Nat} {E : Array Value} (hx : a.eval x = .pointer (some ⟨b, 0, none⟩)) (hE : Ent w b E)
    (h : wpList Try.prog ops Q rest (a.put op.dst (.agg E)) w) : wpList Try.prog ops Q (op :: rest) a w := by
  unfold wpList
  rw [if_pos hw]
  exact Or.inl (wp_loadEnt x ho hx hE h)
theorem wpList_skip (hw : Region.wanted op (yielded ops a.tmps) = false) (h : wpList Try.prog ops Q rest (a.put op.dst undef) w) : wpList Try.prog ops Q (op :: rest) a w := by
  unfold wpList
  rw [hw]
  exact h
end

set_option maxRecDepth 100000 in
set_option maxHeartbeats 1000000 in
theorem learns35 (bw ma mb : Nat) (both : Bool) (p : ByteArray) (Ea Eb : Array Value) (aS aD bS bD : List (ByteArray × Int)) (w : World) (ow : OW w bw ma mb both) (hA : AtE w ma p Ea) (hB : AtE w mb p Eb) (ka : KE w Ea aS aD) (kb : KE w Eb bS bD) :
    Calls Try.prog 35 #[.pointer (some ⟨bw, 0, none⟩), .string p] w fun e w' => Says (Learns both aS aD bS bD) e ∧ Below w.heap.size w w' := by
  have c12 : w.cell? ⟨bw, 12, none⟩ = some (.bool true) := ow.2.2.2
  go_enter Try.func35, Try.ntmps35
  go_upto_region 2 with fail
  refine wp_region_pair (W := w) (ds := [11, 12, 13, 14, 15, 16, 17, 18, 19, 20, 21, 22, 5, 6]) (X := X35 bw ma mb p Ea Eb) (Ea := Ea) (Eb := Eb) (deps := deps35)
    (by kernel_rfl) (slotsG_spec (by kernel_rfl)) (by kernel_rfl) rfl ka.one kb.one rfl rfl (by decide) ⟨_, _, rfl, rfl, rfl, rfl⟩ ⟨_, _, rfl, rfl, rfl, rfl⟩
    ⟨_, _, _, rfl, rfl, rfl, rfl, rfl, rfl, by decide, by decide⟩ ⟨_, _, _, rfl, rfl, rfl, rfl, rfl, rfl, by decide, by decide⟩ ?_ rfl ?_
  · intro i o hi ho
    obtain rfl | rfl | rfl | rfl | rfl | rfl | rfl | rfl | rfl | rfl | rfl | rfl : i = 0 ∨ i = 1 ∨ i = 2 ∨ i = 3 ∨ i = 4 ∨ i = 5 ∨ i = 6 ∨ i = 7 ∨ i = 8 ∨ i = 9 ∨ i = 10 ∨ i = 11 := by omega
    · simp only [List.getElem?_toArray, List.getElem?_cons_zero, Option.some.injEq] at ho; subst ho
      exact ⟨rfl, ⟨_, rfl⟩, fun a w hk hb hs => wp_move _ rfl ⟨congrArg (a.put _) ((slot_eval a 0).trans (hk.slot (by decide))), Below.refl _ _⟩⟩
    · simp only [List.getElem?_toArray, List.getElem?_cons_succ, List.getElem?_cons_zero, Option.some.injEq] at ho; subst ho
      exact ⟨rfl, ⟨_, rfl⟩, fun a w hk hb hs => wp_nilCheck _ rfl ((slot_eval a 11).trans (hs 0 (by decide))) ⟨rfl, Below.refl _ _⟩⟩
    · simp only [List.getElem?_toArray, List.getElem?_cons_succ, List.getElem?_cons_zero, Option.some.injEq] at ho; subst ho
      exact ⟨rfl, ⟨_, rfl⟩, fun a w hk hb hs => wp_field67a _ rfl ((slot_eval a 12).trans (hs 1 (by decide))) ⟨rfl, Below.refl _ _⟩⟩
    · simp only [List.getElem?_toArray, List.getElem?_cons_succ, List.getElem?_cons_zero, Option.some.injEq] at ho; subst ho
      exact ⟨rfl, ⟨_, rfl⟩, fun a w hk hb hs => wp_load36 _ rfl ((slot_eval a 13).trans (hs 2 (by decide))) (ow.below hb).1 ⟨rfl, Below.refl _ _⟩⟩
    · simp only [List.getElem?_toArray, List.getElem?_cons_succ, List.getElem?_cons_zero, Option.some.injEq] at ho; subst ho
      exact ⟨rfl, ⟨_, rfl⟩, fun a w hk hb hs => wp_move _ rfl ⟨congrArg (a.put _) ((slot_eval a 1).trans (hk.slot (by decide))), Below.refl _ _⟩⟩
    · simp only [List.getElem?_toArray, List.getElem?_cons_succ, List.getElem?_cons_zero, Option.some.injEq] at ho; subst ho
      exact ⟨rfl, ⟨_, rfl⟩, fun a w hk hb hs => wp_call41 _ _ rfl ((slot_eval a 14).trans (hs 3 (by decide))) ((slot_eval a 15).trans (hs 4 (by decide))) hA hb fun w' hb' => ⟨rfl, hb'⟩⟩
    · simp only [List.getElem?_toArray, List.getElem?_cons_succ, List.getElem?_cons_zero, Option.some.injEq] at ho; subst ho
      exact ⟨rfl, ⟨_, rfl⟩, fun a w hk hb hs => wp_move _ rfl ⟨congrArg (a.put _) ((slot_eval a 0).trans (hk.slot (by decide))), Below.refl _ _⟩⟩
    · simp only [List.getElem?_toArray, List.getElem?_cons_succ, List.getElem?_cons_zero, Option.some.injEq] at ho; subst ho
      exact ⟨rfl, ⟨_, rfl⟩, fun a w hk hb hs => wp_nilCheck _ rfl ((slot_eval a 17).trans (hs 6 (by decide))) ⟨rfl, Below.refl _ _⟩⟩
    · simp only [List.getElem?_toArray, List.getElem?_cons_succ, List.getElem?_cons_zero, Option.some.injEq] at ho; subst ho
      exact ⟨rfl, ⟨_, rfl⟩, fun a w hk hb hs => wp_field67b _ rfl ((slot_eval a 18).trans (hs 7 (by decide))) ⟨rfl, Below.refl _ _⟩⟩
    · simp only [List.getElem?_toArray, List.getElem?_cons_succ, List.getElem?_cons_zero, Option.some.injEq] at ho; subst ho
      exact ⟨rfl, ⟨_, rfl⟩, fun a w hk hb hs => wp_load36 _ rfl ((slot_eval a 19).trans (hs 8 (by decide))) (ow.below hb).2.1 ⟨rfl, Below.refl _ _⟩⟩
    · simp only [List.getElem?_toArray, List.getElem?_cons_succ, List.getElem?_cons_zero, Option.some.injEq] at ho; subst ho
      exact ⟨rfl, ⟨_, rfl⟩, fun a w hk hb hs => wp_move _ rfl ⟨congrArg (a.put _) ((slot_eval a 1).trans (hk.slot (by decide))), Below.refl _ _⟩⟩
    · simp only [List.getElem?_toArray, List.getElem?_cons_succ, List.getElem?_cons_zero, Option.some.injEq] at ho; subst ho
      exact ⟨rfl, ⟨_, rfl⟩, fun a w hk hb hs => wp_call41 _ _ rfl ((slot_eval a 20).trans (hs 9 (by decide))) ((slot_eval a 21).trans (hs 10 (by decide))) hB hb fun w' hb' => ⟨rfl, hb'⟩⟩
  · intro a' w1 b b' hk hb1 g12 g13 he he'
    have e5 : slot a' 5 = .pointer (some ⟨b, 0, none⟩) := g12
    have e6 : slot a' 6 = .pointer (some ⟨b', 0, none⟩) := g13
    rw [hk.eq, List.foldl_cons, List.foldl_cons, List.foldl_cons, List.foldl_cons, List.foldl_cons, List.foldl_cons, List.foldl_cons, List.foldl_cons, List.foldl_cons, List.foldl_cons, List.foldl_cons, List.foldl_cons, List.foldl_cons, List.foldl_cons, List.foldl_nil, e5, e6]
    clear g12 g13 e5 e6
    have ka1 := ka.below hb1
    have kb1 := kb.below hb1
    have ow1 := ow.below hb1
    simp only [List.setIfInBounds_toArray, List.set_cons_succ, List.set_cons_zero]
    go_wp2_with ((with_reducible refine stop34 ?_ ?_); · exact rfl)
    refine Stop.go (wpList_load_ent _ (by rfl) (by rfl) _ Eb (by rfl) he' ?_)
    go_wp2_with ((with_reducible refine stop34 ?_ ?_); · exact rfl)
    refine Stop.go (wpList_load_ent _ (by rfl) (by rfl) _ Ea (by rfl) he ?_)
    go_wp2_with ((with_reducible refine stop34 ?_ ?_); · exact rfl)
    refine (knows42k Eb Ea bS bD aS aD _ kb1 ka1).mono ?_
    rintro e w2 ⟨⟨q, rfl, hq⟩, hb2⟩
    have hb02 := hb1.trans (hb2.mono hb1.size)
    have ka2 := ka1.below hb2
    have kb2 := kb1.below hb2
    have he2 := he.below hb2
    have he2' := he'.below hb2
    have c3 : w2.cell? ⟨bw, 3, none⟩ = some (.bool both) := (ow1.below hb2).2.2.1
    clear ow1 ka1 kb1 he he' c12
    cases q with
    | false =>
      have HQ : Hid (¬ KnowsAll bS bD aS aD) := fun h => by cases hq.2 h
      clear hq
      go_wp2_with ((with_reducible refine stop34 ?_ ?_); · exact rfl)
      go_ret
      exact ⟨Says.yes (Or.inl HQ.out), hb02⟩
    | true =>
      have HQ : Hid (KnowsAll bS bD aS aD) := hq.1 rfl
      clear hq
      cases both with
      | false =>
        go_wp2_with ((with_reducible refine stop34 ?_ ?_); · exact rfl)
        refine Stop.go (wpList_skip (by rfl) ?_)
        go_wp2_with ((with_reducible refine stop34 ?_ ?_); · exact rfl)
        refine Stop.go (wpList_skip (by rfl) ?_)
        go_wp2_with ((with_reducible refine stop34 ?_ ?_); · exact rfl)
        go_ret
        exact ⟨Says.no fun h => h.elim (fun h => h HQ.out) (fun h => by cases h.1), hb02⟩
      | true =>
        go_wp2_with ((with_reducible refine stop34 ?_ ?_); · exact rfl)
        refine Stop.go (wpList_load_ent_yes _ (by rfl) (by rfl) (by rfl) he2 ?_)
        go_wp2_with ((with_reducible refine stop34 ?_ ?_); · exact rfl)
        refine Stop.go (wpList_load_ent_yes _ (by rfl) (by rfl) (by rfl) he2' ?_)
        go_wp2_with ((with_reducible refine stop34 ?_ ?_); · exact rfl)
        refine (knows42k Ea Eb aS aD bS bD _ ka2 kb2).mono ?_
        rintro e w3 ⟨⟨q, rfl, hq⟩, hb3⟩
        have hb03 := hb02.trans (hb3.mono hb02.size)
        cases q with
        | false =>
          have HR : Hid (¬ KnowsAll aS aD bS bD) := fun h => by cases hq.2 h
          clear hq
          go_wp2_with ((with_reducible refine stop34 ?_ ?_); · exact rfl)
          go_ret
          exact ⟨Says.yes (Or.inr ⟨rfl, HR.out⟩), hb03⟩
        | true =>
          have HR : Hid (KnowsAll aS aD bS bD) := hq.1 rfl
          clear hq
          go_wp2_with ((with_reducible refine stop34 ?_ ?_); · exact rfl)
          go_ret
          exact ⟨Says.no fun h => h.elim (fun h => h HQ.out) (fun h => h.2 HR.out), hb03⟩

set_option maxRecDepth 100000 in
set_option maxHeartbeats 1000000 in
theorem learns15 (ma mb : Nat) (both : Bool) (p : ByteArray) (Ea Eb : Array Value) (aS aD bS bD : List (ByteArray × Int)) (w : World) (hA : AtE w ma p Ea) (hB : AtE w mb p Eb) (ka : KE w Ea aS aD) (kb : KE w Eb bS bD) :
    Calls Try.prog 15 #[.map (some ma), .map (some mb), .bool both, .bool true, .string p] w fun e w' => Says (Learns both aS aD bS bD) e ∧ Below w.heap.size w w' := by
  go_enter Try.func15, Try.ntmps15
  go_wp2_with fail
  refine (learns35 w.heap.size ma mb both p Ea Eb aS aD bS bD _ ⟨by simp, by simp, by simp, by simp⟩ (hA.later (below_alloc w _)) (hB.later (below_alloc w _)) (ka.below (below_alloc w _)) (kb.below (below_alloc w _))).mono ?_
  rintro e w2 ⟨⟨q, rfl, hq⟩, hb2⟩
  have HQ : Hid (q = true ↔ Learns both aS aD bS bD) := hq
  have hb02 := (below_alloc w _).trans (hb2.mono (below_alloc w _).size)
  clear hq hb2
  go_wp2_with fail
  go_ret
  exact ⟨Says.is HQ.out, hb02⟩

end Go.Proofs.Qxb6612745a
