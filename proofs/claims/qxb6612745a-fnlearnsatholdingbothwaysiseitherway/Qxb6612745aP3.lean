/- The row of 'FnLearnsAtHoldingBothWaysIsEitherWay', out of its walk. -/
import Derived.Test.Qxb6612745aW3
import Derived.Test.Qxb6612745aCl
namespace Go.Proofs.Qxb6612745a.fnLearnsAtHoldingBothWaysIsEitherWay
open Go.ChangeShapes Go.WideShapes Go.ChangeAt Go.RowKit
open Go.ChangeMaps (open_string shut_string)
set_option linter.unusedVariables false

set_option maxRecDepth 100000 in
theorem lifted (os : Os) (started : os.Started) (H : Type) (enc : TypeId × Value → H) :
    ReturnsInHanded {} Try.checked os 3 .any (Rows.fnLearnsAtHoldingBothWaysIsEitherWaySpec.pre6 enc Try.prog Try.f3 Rows.fnLearnsAtHoldingBothWaysIsEitherWayRow.domain false) (Rows.fnLearnsAtHoldingBothWaysIsEitherWaySpec.post enc Try.prog Try.f3 false true false false) := by
  refine returnsInHanded_of_change (C := Try.checked) Try.own started (by kernel_rfl) Try.func3
    (ChangeSpec.witness6 (enc := enc) (C := Try.checked) false ⟨#[], #[.string ⟨#[]⟩, .slice none 0 0, .slice none 0 0, .slice none 0 0, .slice none 0 0], []⟩ 8 (by kernel_rfl) (by kernel_rfl) (by kernel_rfl) (by kernel_rfl)) ?_
  intro W base args ds gs before hval0 hW hcnd _
  have hval : ∀ (j : Nat) t v, Try.f3.params[j]? = some t → args[j]? = some v → Value.okWide Try.prog W .any base t v := hval0
  have hW' := hW
  obtain ⟨p, q, hA0, hV, rfl, hfz, hnd⟩ := hW
  have hA : DataW.TrodAll enc Try.prog W 0 (fun _ => true) true Try.f3.params.toList args.toList ds p := hA0
  rw [Try.params3] at hA hval
  obtain ⟨v0, vs0, d0, ds0, p0, q0, hargs, rfl, rfl, h0, r0⟩ := trodAll_cons hA
  obtain ⟨v1, vs1, d1, ds1, p1, q1, rfl, rfl, rfl, h1, r1⟩ := trodAll_cons r0
  obtain ⟨v2, vs2, d2, ds2, p2, q2, rfl, rfl, rfl, h2, r2⟩ := trodAll_cons r1
  obtain ⟨v3, vs3, d3, ds3, p3, q3, rfl, rfl, rfl, h3, r3⟩ := trodAll_cons r2
  obtain ⟨v4, vs4, d4, ds4, p4, q4, rfl, rfl, rfl, h4, r4⟩ := trodAll_cons r3
  obtain ⟨rfl, rfl, rfl⟩ := trodAll_nil r4
  obtain rfl : args = #[v0, v1, v2, v3, v4] := by cases args; simp_all
  obtain ⟨rfl, rfl⟩ := trodVars_none hV
  obtain ⟨s0, rfl, rfl, rfl, w0⟩ := open_string Try.underlying9 (hval 0 9 v0 rfl rfl) h0
  obtain ⟨a1, len1, cap1, rfl⟩ := okWide_slice Try.underlying22 (hval 1 22 v1 rfl rfl)
  have k1 := h1
  have lt1 : ∀ x ∈ p1, x.block < W.heap.size := by obtain ⟨m, hm⟩ := k1; exact DataW.trod_lt m _ _ _ hm
  obtain ⟨l1, hn1, hm1, R1, P1⟩ : ∃ l : List (ByteArray × Int), len1 = l.length ∧ l.length ≤ maxLen ∧ Row W a1 l ∧ Pos l := by
    obtain ⟨fuel, hf⟩ := h1
    exact open_pairs (by simpa [Value.cells] using hf)
  subst hn1
  unfold maxLen at hm1
  obtain ⟨a2, len2, cap2, rfl⟩ := okWide_slice Try.underlying22 (hval 2 22 v2 rfl rfl)
  have k2 := h2
  have lt2 : ∀ x ∈ p2, x.block < W.heap.size := by obtain ⟨m, hm⟩ := k2; exact DataW.trod_lt m _ _ _ hm
  obtain ⟨l2, hn2, hm2, R2, P2⟩ : ∃ l : List (ByteArray × Int), len2 = l.length ∧ l.length ≤ maxLen ∧ Row W a2 l ∧ Pos l := by
    obtain ⟨fuel, hf⟩ := h2
    exact open_pairs (by simpa [Value.cells] using hf)
  subst hn2
  unfold maxLen at hm2
  obtain ⟨a3, len3, cap3, rfl⟩ := okWide_slice Try.underlying22 (hval 3 22 v3 rfl rfl)
  have k3 := h3
  have lt3 : ∀ x ∈ p3, x.block < W.heap.size := by obtain ⟨m, hm⟩ := k3; exact DataW.trod_lt m _ _ _ hm
  obtain ⟨l3, hn3, hm3, R3, P3⟩ : ∃ l : List (ByteArray × Int), len3 = l.length ∧ l.length ≤ maxLen ∧ Row W a3 l ∧ Pos l := by
    obtain ⟨fuel, hf⟩ := h3
    exact open_pairs (by simpa [Value.cells] using hf)
  subst hn3
  unfold maxLen at hm3
  obtain ⟨a4, len4, cap4, rfl⟩ := okWide_slice Try.underlying22 (hval 4 22 v4 rfl rfl)
  have k4 := h4
  have lt4 : ∀ x ∈ p4, x.block < W.heap.size := by obtain ⟨m, hm⟩ := k4; exact DataW.trod_lt m _ _ _ hm
  obtain ⟨l4, hn4, hm4, R4, P4⟩ : ∃ l : List (ByteArray × Int), len4 = l.length ∧ l.length ≤ maxLen ∧ Row W a4 l ∧ Pos l := by
    obtain ⟨fuel, hf⟩ := h4
    exact open_pairs (by simpa [Value.cells] using hf)
  subst hn4
  unfold maxLen at hm4
  clear hA0 hval0
  refine (walk3 s0 a1 a2 a3 a4 cap1 cap2 cap3 cap4 l1 l2 l3 l4 W (by omega) (by omega) (by omega) (by omega) R1 R2 R3 R4 P1 P2 P3 P4).mono fun e W' ⟨he, bel⟩ => ?_
  subst he
  exact ⟨_, rfl, _, _, _, [], _, [], hW', trodAll_mk1 (shut_bool Try.underlying4 _), (trodAll_cons_mk (shut_string Try.underlying9 w0) (trodAll_cons_mk (Below.trod Try.laidOut (by kernel_rfl) (of_decide_eq_true (by kernel_rfl)) k1 bel lt1) (trodAll_cons_mk (Below.trod Try.laidOut (by kernel_rfl) (of_decide_eq_true (by kernel_rfl)) k2 bel lt2) (trodAll_cons_mk (Below.trod Try.laidOut (by kernel_rfl) (of_decide_eq_true (by kernel_rfl)) k3 bel lt3) (trodAll_cons_mk (Below.trod Try.laidOut (by kernel_rfl) (of_decide_eq_true (by kernel_rfl)) k4 bel lt4) trodAll_mk0))))), rfl, bel.frame _, fun h => by cases h⟩

theorem c0 : Rows.fnLearnsAtHoldingBothWaysIsEitherWayRow.wf (OpenSpec.ofChange Rows.fnLearnsAtHoldingBothWaysIsEitherWaySpec) = true := by kernel_rfl
theorem c1 : laidOutB Try.pinned.checked.prog = true := by kernel_rfl
theorem c2 : mapsRowed Try.pinned.checked.prog = true := by kernel_rfl
theorem c3 : Try.f3.params.all (Try.pinned.checked.prog.readableRec ·) = true := by kernel_rfl
theorem c4 : namedTie Try.pinned.checked.prog Rows.fnLearnsAtHoldingBothWaysIsEitherWayRow.named Rows.fnLearnsAtHoldingBothWaysIsEitherWaySpec.vars = true := by kernel_rfl
theorem c5 : (Rows.fnLearnsAtHoldingBothWaysIsEitherWayRow.stops == []) = true := by kernel_rfl
theorem c6 : (Try.pinned.checked.prog.stops == []) = true := by kernel_rfl
theorem c7 : (Rows.fnLearnsAtHoldingBothWaysIsEitherWayRow.knobs == []) = true := by kernel_rfl
theorem c8 : (Try.pinned.checked.prog.stopKnobs == []) = true := by kernel_rfl
theorem c9 : (Rows.fnLearnsAtHoldingBothWaysIsEitherWayRow.inPlace == Try.pinned.checked.prog.inPlace 3) = true := by kernel_rfl
theorem c10 : (Rows.fnLearnsAtHoldingBothWaysIsEitherWayRow.unfollowed == Try.pinned.checked.prog.unfollowed 3) = true := by kernel_rfl
theorem c11 : (Rows.fnLearnsAtHoldingBothWaysIsEitherWayRow.recurses == Try.pinned.checked.prog.recurses 3) = true := by kernel_rfl
theorem c12 : (Rows.fnLearnsAtHoldingBothWaysIsEitherWayRow.named == Try.pinned.checked.prog.varsNamed 3) = true := by kernel_rfl
theorem c13 : (Rows.fnLearnsAtHoldingBothWaysIsEitherWayRow.maps == (Try.f3.params.toList ++ Rows.fnLearnsAtHoldingBothWaysIsEitherWaySpec.plain.varTypes Try.pinned.checked.prog).any (Try.pinned.checked.prog.mapsRec ·)) = true := by kernel_rfl
theorem c14 : (Rows.fnLearnsAtHoldingBothWaysIsEitherWayRow.ifaces == (Try.f3.params.toList ++ Rows.fnLearnsAtHoldingBothWaysIsEitherWaySpec.plain.varTypes Try.pinned.checked.prog).any (Try.pinned.checked.prog.ifacesRec ·)) = true := by kernel_rfl
theorem c15 : (Rows.fnLearnsAtHoldingBothWaysIsEitherWayRow.mapsOut == Try.pinned.checked.prog.mapsAmong Try.f3.resultTypes.toList) = true := by kernel_rfl
theorem c16 : (Rows.fnLearnsAtHoldingBothWaysIsEitherWayRow.loops == (Try.f3.params.toList ++ Rows.fnLearnsAtHoldingBothWaysIsEitherWaySpec.plain.varTypes Try.pinned.checked.prog).any (Try.pinned.checked.prog.loopsFrom ·)) = true := by kernel_rfl
theorem c17 : (Rows.fnLearnsAtHoldingBothWaysIsEitherWayRow.wideKeys == (Try.f3.params.toList ++ Rows.fnLearnsAtHoldingBothWaysIsEitherWaySpec.plain.varTypes Try.pinned.checked.prog ++ Try.f3.resultTypes.toList).any (Try.pinned.checked.prog.wideKeysFrom ·)) = true := by kernel_rfl
theorem c18 : Rows.fnLearnsAtHoldingBothWaysIsEitherWaySpec.vars.all (Try.pinned.checked.prog.varReadable ·) = true := by kernel_rfl
theorem c19 : Try.f3.resultTypes.all (fun t => Try.pinned.checked.prog.readableRec t && decide (t < Try.pinned.checked.prog.types.size)) = true := by kernel_rfl
theorem c20 : (Rows.fnLearnsAtHoldingBothWaysIsEitherWayRow.ifacesOut == Try.f3.resultTypes.toList.any (Try.pinned.checked.prog.ifacesRec ·)) = true := by kernel_rfl
theorem c21 : (Rows.fnLearnsAtHoldingBothWaysIsEitherWayRow.loopsOut == Try.f3.resultTypes.toList.any (Try.pinned.checked.prog.loopsFrom ·)) = true := by kernel_rfl
theorem c22 : (Rows.fnLearnsAtHoldingBothWaysIsEitherWayRow.plainKeys == Try.pinned.checked.prog.plainKeys) = true := by kernel_rfl
theorem c23 : Rows.fnLearnsAtHoldingBothWaysIsEitherWayRow.shortTexts.isNone = true := by kernel_rfl
theorem c27 : (Try.pinned.checked.prog.make == some Rows.fnLearnsAtHoldingBothWaysIsEitherWayRow.make) = true := by kernel_rfl
theorem c28 : (Rows.fnLearnsAtHoldingBothWaysIsEitherWayRow.kinds == (if Rows.fnLearnsAtHoldingBothWaysIsEitherWayRow.domain.isEmpty then [] else Try.f3.params.toList.map fun t => match Try.pinned.checked.prog.underlying t with | some (.int k) => some k | _ => none)) = true := by kernel_rfl
theorem c29 : (Rows.fnLearnsAtHoldingBothWaysIsEitherWayRow.pinned == Rows.fnLearnsAtHoldingBothWaysIsEitherWayRow.pinnedBy) = true := by kernel_rfl
theorem c30 : (Rows.fnLearnsAtHoldingBothWaysIsEitherWayRow.veiled == (Try.f3.params.toList ++ Rows.fnLearnsAtHoldingBothWaysIsEitherWaySpec.plain.varTypes Try.pinned.checked.prog ++ Try.f3.resultTypes.toList).any (Try.pinned.checked.prog.veiledRec ·)) = true := by kernel_rfl
theorem c31 : Rows.fnLearnsAtHoldingBothWaysIsEitherWayRow.veiledFits Try.pinned.checked.prog Try.f3.params.toList (Try.f3.params.toList ++ Rows.fnLearnsAtHoldingBothWaysIsEitherWaySpec.plain.varTypes Try.pinned.checked.prog ++ Try.f3.resultTypes.toList) = true := by kernel_rfl
theorem closed : joinedFacts Try.pinned.checked.prog 3 Try.f3 Rows.fnLearnsAtHoldingBothWaysIsEitherWaySpec Rows.fnLearnsAtHoldingBothWaysIsEitherWayRow = true := (band (band (band (band (band (band (band (band (band (band (band (band (band (band (band (band (band (band (band (band (band (band (band (band (band (band (band (band (band (band (band c0 c1) c2) c3) c4) c5) c6) c7) c8) c9) c10) c11) c12) c13) c14) c15) c16) c17) c18) c19) c20) c21) c22) c23) heard) mayEnter) lifts) c27) c28) c29) c30) c31)

theorem named : Try.pinned.checked.prog.funcNamed Rows.fnLearnsAtHoldingBothWaysIsEitherWayRow.func = some 3 := by kernel_rfl
theorem inst : Try.f3.isInstance Try.pinned.checked.prog Rows.fnLearnsAtHoldingBothWaysIsEitherWayRow.origin Rows.fnLearnsAtHoldingBothWaysIsEitherWayRow.targs := of_decide_eq_true (by kernel_rfl)

theorem over : Rows.fnLearnsAtHoldingBothWaysIsEitherWayRow.holds Try.pinned (OpenSpec.ofChange Rows.fnLearnsAtHoldingBothWaysIsEitherWaySpec) :=
  OpenClaim.holds_of_wide 3 Try.f3 rfl rfl rfl rfl rfl rfl rfl ⟨rfl, rfl, rfl, rfl, rfl⟩ rfl rfl rfl rfl rfl named Try.func3 closed
    inst (by unfold Func.isWrapper; first | (rw [if_pos (by decide +kernel)]; kernel_rfl) | (rw [if_neg (by decide +kernel)]; exact ⟨rfl, rfl⟩))
    (fun os started H enc _ => lifted os started H enc)

/-- THE STATEMENT. -/
theorem proved : Rows.FnLearnsAtHoldingBothWaysIsEitherWaySaid := over
end Go.Proofs.Qxb6612745a.fnLearnsAtHoldingBothWaysIsEitherWay
