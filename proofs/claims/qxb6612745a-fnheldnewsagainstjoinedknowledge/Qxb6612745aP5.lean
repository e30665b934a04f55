/- The row of 'FnHeldNewsAgainstJoinedKnowledge', out of its walk. -/
import Derived.Test.Qxb6612745aW5
import Derived.Test.Qxb6612745aCl
namespace Go.Proofs.Qxb6612745a.fnHeldNewsAgainstJoinedKnowledge
open Go.ChangeShapes Go.WideShapes Go.ChangeAt Go.RowKit
open Go.ChangeMaps (open_string shut_string)
set_option linter.unusedVariables false

set_option maxRecDepth 100000 in
theorem lifted (os : Os) (started : os.Started) (H : Type) (enc : TypeId × Value → H) :
    ReturnsInHanded {} Try.checked os 5 .any (Rows.fnHeldNewsAgainstJoinedKnowledgeSpec.pre6 enc Try.prog Try.f5 Rows.fnHeldNewsAgainstJoinedKnowledgeRow.domain false) (Rows.fnHeldNewsAgainstJoinedKnowledgeSpec.post enc Try.prog Try.f5 false true false false) := by
  refine returnsInHanded_of_change (C := Try.checked) Try.own started (by kernel_rfl) Try.func5
    (ChangeSpec.witness6 (enc := enc) (C := Try.checked) false ⟨#[], #[.string ⟨#[]⟩, .slice none 0 0, .slice none 0 0, .slice none 0 0], []⟩ 8 (by kernel_rfl) (by kernel_rfl) (by kernel_rfl) (by kernel_rfl)) ?_
  intro W base args ds gs before hval0 hW hcnd _
  have hval : ∀ (j : Nat) t v, Try.f5.params[j]? = some t → args[j]? = some v → Value.okWide Try.prog W .any base t v := hval0
  have hW' := hW
  obtain ⟨p, q, hA0, hV, rfl, hfz, hnd⟩ := hW
  have hA : DataW.TrodAll enc Try.prog W 0 (fun _ => true) true Try.f5.params.toList args.toList ds p := hA0
  rw [Try.params5] at hA hval
  obtain ⟨v0, vs0, d0, ds0, p0, q0, hargs, rfl, rfl, h0, r0⟩ := trodAll_cons hA
  obtain ⟨v1, vs1, d1, ds1, p1, q1, rfl, rfl, rfl, h1, r1⟩ := trodAll_cons r0
  obtain ⟨v2, vs2, d2, ds2, p2, q2, rfl, rfl, rfl, h2, r2⟩ := trodAll_cons r1
  obtain ⟨v3, vs3, d3, ds3, p3, q3, rfl, rfl, rfl, h3, r3⟩ := trodAll_cons r2
  obtain ⟨rfl, rfl, rfl⟩ := trodAll_nil r3
  obtain rfl : args = #[v0, v1, v2, v3] := by cases args; simp_all
  obtain ⟨rfl, rfl⟩ := trodVars_none hV
  obtain ⟨s0, rfl, rfl, rfl, w0⟩ := open_string Try.underlying9 (hval 0 9 v0 rfl rfl) h0
  obtain ⟨a1, len1, cap1, rfl⟩ := okWide_slice Try.underlying22 (hval 1 22 v1 rfl rfl)
  have k1 := h1
  have lt1 : ∀ x ∈ p1, x.block < W.heap.size := by obtain ⟨m, hm⟩ := k1; exact DataW.trod_lt m _ _ _ hm
  obtain ⟨l1, hn1, hm1, R1, P1⟩ : ∃ l : List (ByteArray × Int), len1 = l.length ∧ l.length ≤ maxLen ∧ Row W a1 l ∧ Pos l := by
    obtain ⟨fuel, hf⟩ := h1
    exact open_pairs (by simpa [Value.cells] using hf)
  subst hn1
  unfold maxLen at hm1
  obtain ⟨a2, len2, cap2, rfl⟩ := okWide_slice Try.underlying22 (hval 2 22 v2 rfl rfl)
  have k2 := h2
  have lt2 : ∀ x ∈ p2, x.block < W.heap.size := by obtain ⟨m, hm⟩ := k2; exact DataW.trod_lt m _ _ _ hm
  obtain ⟨l2, hn2, hm2, R2, P2⟩ : ∃ l : List (ByteArray × Int), len2 = l.length ∧ l.length ≤ maxLen ∧ Row W a2 l ∧ Pos l := by
    obtain ⟨fuel, hf⟩ := h2
    exact open_pairs (by simpa [Value.cells] using hf)
  subst hn2
  unfold maxLen at hm2
  obtain ⟨a3, len3, cap3, rfl⟩ := okWide_slice Try.underlying22 (hval 3 22 v3 rfl rfl)
  have k3 := h3
  have lt3 : ∀ x ∈ p3, x.block < W.heap.size := by obtain ⟨m, hm⟩ := k3; exact DataW.trod_lt m _ _ _ hm
  obtain ⟨l3, hn3, hm3, R3, P3⟩ : ∃ l : List (ByteArray × Int), len3 = l.length ∧ l.length ≤ maxLen ∧ Row W a3 l ∧ Pos l := by
    obtain ⟨fuel, hf⟩ := h3
    exact open_pairs (by simpa [Value.cells] using hf)
  subst hn3
  unfold maxLen at hm3
  clear hA0 hval0
  refine (walk5 s0 a1 a2 a3 cap1 cap2 cap3 l1 l2 l3 W (by omega) (by omega) (by omega) R1 R2 R3 P1 P2 P3).mono fun e W' ⟨he, bel⟩ => ?_
  subst he
  exact ⟨_, rfl, _, _, _, [], _, [], hW', trodAll_mk1 (shut_bool Try.underlying4 _), (trodAll_cons_mk (shut_string Try.underlying9 w0) (trodAll_cons_mk (Below.trod Try.laidOut (by kernel_rfl) (of_decide_eq_true (by kernel_rfl)) k1 bel lt1) (trodAll_cons_mk (Below.trod Try.laidOut (by kernel_rfl) (of_decide_eq_true (by kernel_rfl)) k2 bel lt2) (trodAll_cons_mk (Below.trod Try.laidOut (by kernel_rfl) (of_decide_eq_true (by kernel_rfl)) k3 bel lt3) trodAll_mk0)))), rfl, bel.frame _, fun h => by cases h⟩

theorem c0 : Rows.fnHeldNewsAgainstJoinedKnowledgeRow.wf (OpenSpec.ofChange Rows.fnHeldNewsAgainstJoinedKnowledgeSpec) = true := by kernel_rfl
theorem c1 : laidOutB Try.pinned.checked.prog = true := by kernel_rfl
theorem c2 : mapsRowed Try.pinned.checked.prog = true := by kernel_rfl
theorem c3 : Try.f5.params.all (Try.pinned.checked.prog.readableRec ·) = true := by kernel_rfl
theorem c4 : namedTie Try.pinned.checked.prog Rows.fnHeldNewsAgainstJoinedKnowledgeRow.named Rows.fnHeldNewsAgainstJoinedKnowledgeSpec.vars = true := by kernel_rfl
theorem c5 : (Rows.fnHeldNewsAgainstJoinedKnowledgeRow.stops == []) = true := by kernel_rfl
theorem c6 : (Try.pinned.checked.prog.stops == []) = true := by kernel_rfl
theorem c7 : (Rows.fnHeldNewsAgainstJoinedKnowledgeRow.knobs == []) = true := by kernel_rfl
theorem c8 : (Try.pinned.checked.prog.stopKnobs == []) = true := by kernel_rfl
theorem c9 : (Rows.fnHeldNewsAgainstJoinedKnowledgeRow.inPlace == Try.pinned.checked.prog.inPlace 5) = true := by kernel_rfl
theorem c10 : (Rows.fnHeldNewsAgainstJoinedKnowledgeRow.unfollowed == Try.pinned.checked.prog.unfollowed 5) = true := by kernel_rfl
theorem c11 : (Rows.fnHeldNewsAgainstJoinedKnowledgeRow.recurses == Try.pinned.checked.prog.recurses 5) = true := by kernel_rfl
theorem c12 : (Rows.fnHeldNewsAgainstJoinedKnowledgeRow.named == Try.pinned.checked.prog.varsNamed 5) = true := by kernel_rfl
theorem c13 : (Rows.fnHeldNewsAgainstJoinedKnowledgeRow.maps == (Try.f5.params.toList ++ Rows.fnHeldNewsAgainstJoinedKnowledgeSpec.plain.varTypes Try.pinned.checked.prog).any (Try.pinned.checked.prog.mapsRec ·)) = true := by kernel_rfl
theorem c14 : (Rows.fnHeldNewsAgainstJoinedKnowledgeRow.ifaces == (Try.f5.params.toList ++ Rows.fnHeldNewsAgainstJoinedKnowledgeSpec.plain.varTypes Try.pinned.checked.prog).any (Try.pinned.checked.prog.ifacesRec ·)) = true := by kernel_rfl
theorem c15 : (Rows.fnHeldNewsAgainstJoinedKnowledgeRow.mapsOut == Try.pinned.checked.prog.mapsAmong Try.f5.resultTypes.toList) = true := by kernel_rfl
theorem c16 : (Rows.fnHeldNewsAgainstJoinedKnowledgeRow.loops == (Try.f5.params.toList ++ Rows.fnHeldNewsAgainstJoinedKnowledgeSpec.plain.varTypes Try.pinned.checked.prog).any (Try.pinned.checked.prog.loopsFrom ·)) = true := by kernel_rfl
theorem c17 : (Rows.fnHeldNewsAgainstJoinedKnowledgeRow.wideKeys == (Try.f5.params.toList ++ Rows.fnHeldNewsAgainstJoinedKnowledgeSpec.plain.varTypes Try.pinned.checked.prog ++ Try.f5.resultTypes.toList).any (Try.pinned.checked.prog.wideKeysFrom ·)) = true := by kernel_rfl
theorem c18 : Rows.fnHeldNewsAgainstJoinedKnowledgeSpec.vars.all (Try.pinned.checked.prog.varReadable ·) = true := by kernel_rfl
theorem c19 : Try.f5.resultTypes.all (fun t => Try.pinned.checked.prog.readableRec t && decide (t < Try.pinned.checked.prog.types.size)) = true := by kernel_rfl
theorem c20 : (Rows.fnHeldNewsAgainstJoinedKnowledgeRow.ifacesOut == Try.f5.resultTypes.toList.any (Try.pinned.checked.prog.ifacesRec ·)) = true := by kernel_rfl
theorem c21 : (Rows.fnHeldNewsAgainstJoinedKnowledgeRow.loopsOut == Try.f5.resultTypes.toList.any (Try.pinned.checked.prog.loopsFrom ·)) = true := by kernel_rfl
theorem c22 : (Rows.fnHeldNewsAgainstJoinedKnowledgeRow.plainKeys == Try.pinned.checked.prog.plainKeys) = true := by kernel_rfl
theorem c23 : Rows.fnHeldNewsAgainstJoinedKnowledgeRow.shortTexts.isNone = true := by kernel_rfl
theorem c27 : (Try.pinned.checked.prog.make == some Rows.fnHeldNewsAgainstJoinedKnowledgeRow.make) = true := by kernel_rfl
theorem c28 : (Rows.fnHeldNewsAgainstJoinedKnowledgeRow.kinds == (if Rows.fnHeldNewsAgainstJoinedKnowledgeRow.domain.isEmpty then [] else Try.f5.params.toList.map fun t => match Try.pinned.checked.prog.underlying t with | some (.int k) => some k | _ => none)) = true := by kernel_rfl
theorem c29 : (Rows.fnHeldNewsAgainstJoinedKnowledgeRow.pinned == Rows.fnHeldNewsAgainstJoinedKnowledgeRow.pinnedBy) = true := by kernel_rfl
theorem c30 : (Rows.fnHeldNewsAgainstJoinedKnowledgeRow.veiled == (Try.f5.params.toList ++ Rows.fnHeldNewsAgainstJoinedKnowledgeSpec.plain.varTypes Try.pinned.checked.prog ++ Try.f5.resultTypes.toList).any (Try.pinned.checked.prog.veiledRec ·)) = true := by kernel_rfl
theorem c31 : Rows.fnHeldNewsAgainstJoinedKnowledgeRow.veiledFits Try.pinned.checked.prog Try.f5.params.toList (Try.f5.params.toList ++ Rows.fnHeldNewsAgainstJoinedKnowledgeSpec.plain.varTypes Try.pinned.checked.prog ++ Try.f5.resultTypes.toList) = true := by kernel_rfl
theorem closed : joinedFacts Try.pinned.checked.prog 5 Try.f5 Rows.fnHeldNewsAgainstJoinedKnowledgeSpec Rows.fnHeldNewsAgainstJoinedKnowledgeRow = true := (band (band (band (band (band (band (band (band (band (band (band (band (band (band (band (band (band (band (band (band (band (band (band (band (band (band (band (band (band (band (band c0 c1) c2) c3) c4) c5) c6) c7) c8) c9) c10) c11) c12) c13) c14) c15) c16) c17) c18) c19) c20) c21) c22) c23) heard) mayEnter) lifts) c27) c28) c29) c30) c31)

theorem named : Try.pinned.checked.prog.funcNamed Rows.fnHeldNewsAgainstJoinedKnowledgeRow.func = some 5 := by kernel_rfl
theorem inst : Try.f5.isInstance Try.pinned.checked.prog Rows.fnHeldNewsAgainstJoinedKnowledgeRow.origin Rows.fnHeldNewsAgainstJoinedKnowledgeRow.targs := of_decide_eq_true (by kernel_rfl)

theorem over : Rows.fnHeldNewsAgainstJoinedKnowledgeRow.holds Try.pinned (OpenSpec.ofChange Rows.fnHeldNewsAgainstJoinedKnowledgeSpec) :=
  OpenClaim.holds_of_wide 5 Try.f5 rfl rfl rfl rfl rfl rfl rfl ⟨rfl, rfl, rfl, rfl, rfl⟩ rfl rfl rfl rfl rfl named Try.func5 closed
    inst (by unfold Func.isWrapper; first | (rw [if_pos (by decide +kernel)]; kernel_rfl) | (rw [if_neg (by decide +kernel)]; exact ⟨rfl, rfl⟩))
    (fun os started H enc _ => lifted os started H enc)

/-- THE STATEMENT. -/
theorem proved : Rows.FnHeldNewsAgainstJoinedKnowledgeSaid := over
end Go.Proofs.Qxb6612745a.fnHeldNewsAgainstJoinedKnowledge
