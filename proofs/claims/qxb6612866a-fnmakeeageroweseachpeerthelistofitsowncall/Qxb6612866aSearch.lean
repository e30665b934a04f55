/- cmp.Less (32), isNaN (33, 34), slices.BinarySearch (30) at node ids; place (26). -/
import Derived.Test.Qxb6612866aBase
namespace Go.Proofs.Qxb6612866a
open Go.RowKit

theorem nan34 (x : Int) (w : World) : Calls Try.prog 34 #[.int .i64 x] w fun e w' => e = .returned (.bool false) ∧ w' = w := by
  go_enter Try.func34, Try.ntmps34
  go_wp2
  go_ret
  exact ⟨by simp, rfl⟩

theorem nan33 (x : Int) (w : World) : Calls Try.prog 33 #[.int .i64 x] w fun e w' => e = .returned (.bool false) ∧ w' = w := by
  go_enter Try.func33, Try.ntmps33
  go_wp2
  go_ret
  exact ⟨by simp, rfl⟩

set_option maxHeartbeats 400000 in
theorem less32 (x y : Int) (w : World) : Calls Try.prog 32 #[.int .i64 x, .int .i64 y] w fun e w' => e = .returned (.bool (decide (x < y))) ∧ w' = w := by
  go_enter Try.func32, Try.ntmps32
  go_wp2_with fail
  refine (nan34 x w).mono ?_
  rintro e w1 ⟨rfl, hw⟩
  rw [hw]
  clear hw w1
  go_wp2_with fail
  go_ret
  exact ⟨rfl, rfl⟩

set_option maxHeartbeats 1000000 in
theorem search30 (a : Option Addr) (cap : Nat) (l : List Int) (v : Int) (w : World) (hl : l.length ≤ 1000000) (hr : Row w a l) (ha : Asc l) :
    Calls Try.prog 30 #[.slice a l.length cap, .int .i64 v] w fun e w' => IsFind l v e ∧ w' = w := by
  have HA : Hid (Asc l) := ha
  clear ha
  go_enter Try.func30, Try.ntmps30
  go_wp2
  go_loop [7, 8] (fun i j => ∃ lo hi : Nat, lo ≤ hi ∧ hi ≤ l.length ∧ i = .int .i64 lo ∧ j = .int .i64 hi ∧ Hid ((∀ i, i < lo → at_ l i < v) ∧ ∀ i, hi ≤ i → i < l.length → v ≤ at_ l i)) (fun i j => (intOf j).toNat - (intOf i).toNat)
  case atStart => exact ⟨0, l.length, by omega, by omega, rfl, rfl, ⟨fun i hi => by omega, fun i h1 h2 => by omega⟩⟩
  case round =>
    obtain ⟨lo, hi, h1, h2, rfl, rfl, HV⟩ := hrel
    by_cases hlt : lo < hi
    · obtain ⟨m, hm⟩ : ∃ m : Nat, m = (lo + hi) / 2 := ⟨_, rfl⟩
      have hm1 : lo ≤ m := by omega
      have hm2 : m < hi := by omega
      obtain ⟨b, off, rfl, c0⟩ := hr m (by omega)
      clear hr
      have i1 : (0 : Int) ≤ (m : Int) := by omega
      have i2 : (m : Int) < (l.length : Int) := by omega
      have hd : ((lo : Int) + (hi : Int)) / 2 = (m : Int) := by omega
      clear hm
      go_wp2_with fail
      refine (less32 _ _ _).mono ?_
      rintro e w1 ⟨rfl, hw⟩
      rw [hw]
      clear hw w1
      by_cases hv : at_ l m < v
      · rw [decide_eq_true hv]
        have HX : Hid (at_ l m < v) := hv
        clear hv
        go_wp2_with fail
        go_round
        case rel =>
          refine ⟨m + 1, hi, by omega, h2, by go_num, rfl, ⟨fun i hi' => ?_, HV.out.2⟩⟩
          by_cases him : i = m
          · subst him; exact HX.out
          · have := HA.out.lt (i := i) (j := m) (by omega) (by omega)
            have := HX.out
            omega
        case measure => simp [intOf]; omega
      · rw [decide_eq_false hv]
        have HX : Hid (v ≤ at_ l m) := Int.not_lt.1 hv
        clear hv
        go_wp2_with fail
        go_round
        case rel =>
          refine ⟨lo, m, by omega, by omega, rfl, rfl, ⟨HV.out.1, fun i h1' h2' => ?_⟩⟩
          by_cases him : i = m
          · subst him; exact HX.out
          · have := HA.out.lt (i := m) (j := i) (by omega) h2'
            have := HX.out
            omega
        case measure => simp [intOf]; omega
    · obtain rfl : lo = hi := by omega
      have HF : Found l v lo := ⟨h2, HV.out.1, HV.out.2⟩
      by_cases hz : lo < l.length
      · obtain ⟨b, off, rfl, c0⟩ := hr lo hz
        clear hr
        have hz' : decide ((lo : Int) < (l.length : Int)) = true := decide_eq_true (by omega)
        by_cases hq : at_ l lo = v
        · have hq' : (at_ l lo == v) = true := by simpa using hq
          have HX : Hid (at_ l lo = v) := hq
          clear hq
          go_wp2_with fail
          go_ret2
          exact ⟨⟨lo, ret_pair (decide_eq_true ⟨hz, HX.out⟩).symm, HF⟩, rfl⟩
        · have hq' : (at_ l lo == v) = false := by simpa using hq
          have HX : Hid (¬ at_ l lo = v) := hq
          clear hq
          go_wp2_with fail
          refine (nan33 _ _).mono ?_
          rintro e w1 ⟨rfl, hw⟩
          rw [hw]
          clear hw w1
          go_wp2_with fail
          go_ret2
          exact ⟨⟨lo, ret_pair (decide_eq_false fun h => HX.out h.2).symm, HF⟩, rfl⟩
      · have hz' : decide ((lo : Int) < (l.length : Int)) = false := decide_eq_false (by omega)
        clear hr
        go_wp2_with fail
        go_ret2
        exact ⟨⟨lo, ret_pair (decide_eq_false fun h => hz h.1).symm, HF⟩, rfl⟩

end Go.Proofs.Qxb6612866a
