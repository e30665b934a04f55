/- lazyMatches (14). -/
import Derived.Test.Qxb6612866aNode
namespace Go.Proofs.Qxb6612866a
open Go.RowKit

set_option maxHeartbeats 400000 in
theorem match14 (B bn : Nat) (an aw : Option Addr) (cw : Nat) (lz : Value) (F G : List Bool) (w : World) (hL : Lz w B bn an lz F) (hr : RowB w aw G) (hl : G.length ≤ 1000000) (hFG : F.length = G.length) :
    Calls Try.prog 14 #[lz, .slice aw G.length cw] w fun e w' => e = .returned (.bool (decide (F = G))) ∧ Below w.heap.size w w' := by
  rcases hL with ⟨rfl, n, hn⟩ | ⟨g, rfl, hg1, hg2, hg3, hg4⟩
  · have hq33 := fun w => heq33 none 0 0 w
    have HN : Hid (F = List.replicate G.length false) := by
      show F = _
      rw [hn] at hFG ⊢
      rw [List.length_replicate] at hFG
      rw [hFG]
    clear hn hFG
    go_enter Try.func14, Try.ntmps14
    go_wp2_with fail
    go_loop [11] (fun i => ∃ k : Nat, k ≤ G.length ∧ i = .int .i64 k ∧ Hid (∀ i, i < k → bt_ G i = false)) (fun i => G.length - (intOf i).toNat)
    case atStart => exact ⟨0, by omega, rfl, by intro i hi; omega⟩
    case round =>
      obtain ⟨k, hk, rfl, HV⟩ := hrel
      by_cases hlt : k < G.length
      · obtain ⟨b, off, rfl, c0⟩ := hr k hlt
        clear hr
        have i1 : (0 : Int) ≤ (k : Int) := by omega
        have i2 : (k : Int) < (G.length : Int) := by omega
        cases hx : bt_ G k with
        | false =>
          rw [hx] at c0
          have HX : Hid (bt_ G k = false) := hx
          clear hx
          go_wp2_with fail
          go_round
          case rel =>
            refine ⟨k + 1, by omega, by go_num, ?_⟩
            intro i hi
            by_cases hij : i = k
            · subst hij; exact HX.out
            · exact HV.out i (by omega)
          case measure => simp [intOf]; omega
        | true =>
          rw [hx] at c0
          have HX : Hid (bt_ G k = true) := hx
          clear hx
          go_wp2_with fail
          go_ret
          refine ⟨ret_false fun e => ?_, Below.refl _ _⟩
          have h1 := HX.out
          rw [← e, HN.out] at h1
          simp [bt_, hlt] at h1
      · clear hr
        go_wp2_with fail
        go_ret
        refine ⟨ret_true ?_, Below.refl _ _⟩
        rw [HN.out]
        refine list_extB (by simp) fun i hi => ?_
        rw [List.length_replicate] at hi
        rw [HV.out i (by omega)]
        simp [bt_, hi]
  · have hq33 := fun w => heq33 (some ⟨g, 0, none⟩) F.length F.length w
    have HFG : Hid (F.length = G.length) := hFG
    clear hFG
    go_enter Try.func14, Try.ntmps14
    go_wp2_with fail
    refine (equal23 _ _ _ _ F G w (by have := HFG.out; omega) hg4.row hr).mono ?_
    rintro e w1 ⟨he, hb⟩
    generalize hd : decide (F = G) = fb at he
    subst he
    have HD : Hid (decide (F = G) = fb) := hd
    clear hd
    go_wp2_with fail
    go_ret
    refine ⟨?_, hb⟩
    rw [HD.out]; rfl

end Go.Proofs.Qxb6612866a
