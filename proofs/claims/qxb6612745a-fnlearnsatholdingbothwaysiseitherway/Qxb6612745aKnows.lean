/- zzKnows (16): the name-by-name model of 'knows'. -/
import Derived.Test.Qxb6612745aRead
namespace Go.Proofs.Qxb6612745a
open Go.RowKit

/-- fS is at most eS, and each counter of fDS is at most eS's or eDS's. -/
def zKnows (eS eDS fS fDS : List (ByteArray × Int)) : Prop := (∀ x ∈ fS, x.2 ≤ valF eS x.1) ∧ ∀ x ∈ fDS, x.2 ≤ valF eS x.1 ∨ x.2 ≤ valF eDS x.1

set_option maxHeartbeats 1000000 in
theorem knows16 (a0 a1 a2 a3 : Option Addr) (c0 c1 c2 c3 : Nat) (l0 l1 l2 l3 : List (ByteArray × Int)) (w : World)
    (h0 : l0.length ≤ 9223372036854775807) (h1 : l1.length ≤ 9223372036854775807) (h2 : l2.length ≤ 9223372036854775807) (h3 : l3.length ≤ 9223372036854775807)
    (r0 : Row w a0 l0) (r1 : Row w a1 l1) (r2 : Row w a2 l2) (r3 : Row w a3 l3) :
    Calls Try.prog 16 #[.slice a0 l0.length c0, .slice a1 l1.length c1, .slice a2 l2.length c2, .slice a3 l3.length c3] w
      fun e w' => Says (zKnows l0 l1 l2 l3) e ∧ Below w.heap.size w w' := by
  go_enter Try.func16, Try.ntmps16
  go_wp2_with fail
  refine (leq22 _ _ _ _ _ _ _ h2 h0 r2 r0).mono ?_
  rintro e w1 ⟨rfl, hb1⟩
  by_cases hz : ∀ x ∈ l2, x.2 ≤ valF l0 x.1
  · rw [decide_eq_true hz]
    have HZ : Hid (∀ x ∈ l2, x.2 ≤ valF l0 x.1) := hz
    clear hz
    have q0 := r0.below hb1
    have q1 := r1.below hb1
    have q3 := r3.below hb1
    clear r0 r1 r2 r3
    go_wp2
    go_loop [9] (fun i => ∃ k : Nat, k ≤ l3.length ∧ i = .int .i64 k ∧ Hid (∀ x ∈ l3.take k, x.2 ≤ valF l0 x.1 ∨ x.2 ≤ valF l1 x.1)) (fun i => l3.length - (intOf i).toNat)
    case atStart => exact ⟨0, by omega, rfl, by intro x hx; simp at hx⟩
    case round =>
      obtain ⟨k, hk, rfl, HV⟩ := hrel
      by_cases hlt : k < l3.length
      · obtain ⟨b, off, rfl, d0, d1⟩ := q3 k hlt
        clear q3
        by_cases hg : valF l0 (at_ l3 k).1 < (at_ l3 k).2
        · go_wp2_with fail
          refine (value36 _ _ _ _ _ h0 q0).mono ?_
          rintro e w' ⟨rfl, hw⟩
          subst hw
          go_wp2_with fail
          refine (value36 _ _ _ _ _ h1 q1).mono ?_
          rintro e w' ⟨rfl, hw⟩
          subst hw
          by_cases hg2 : valF l1 (at_ l3 k).1 < (at_ l3 k).2
          · go_wp2_with fail
            go_ret
            refine ⟨Says.no fun h => ?_, hb1⟩
            have := h.2 _ (at_mem hlt)
            omega
          · go_wp2_with fail
            go_round
            case rel =>
              refine ⟨k + 1, by omega, by go_num, ?_⟩
              intro x hx
              rw [take_at hlt] at hx
              rcases List.mem_append.1 hx with hx | hx
              · exact HV.out x hx
              · simp at hx; subst hx; omega
            case measure => simp [intOf]; omega
        · go_wp2_with fail
          refine (value36 _ _ _ _ _ h0 q0).mono ?_
          rintro e w' ⟨rfl, hw⟩
          subst hw
          go_wp2_with fail
          go_round
          case rel =>
            refine ⟨k + 1, by omega, by go_num, ?_⟩
            intro x hx
            rw [take_at hlt] at hx
            rcases List.mem_append.1 hx with hx | hx
            · exact HV.out x hx
            · simp at hx; subst hx; omega
          case measure => simp [intOf]; omega
      · clear q3
        go_wp2
        go_ret
        exact ⟨Says.yes ⟨HZ.out, fun x hx => HV.out x (by rw [List.take_of_length_le (by omega)]; exact hx)⟩, hb1⟩
  · rw [decide_eq_false hz]
    go_wp2
    go_ret
    exact ⟨Says.no fun h => hz h.1, hb1⟩

end Go.Proofs.Qxb6612745a
