/- The bound on the total length, function 23: it hands back a bool and turns nothing. -/
import Derived.Test.Qxb6612745aBase
namespace Go.Proofs.Qxb6612745a
open Go.RowKit

set_option maxRecDepth 100000 in
set_option maxHeartbeats 4000000 in
theorem bytes23 (p0 : ByteArray) (p1 : ByteArray) (a2 : Option Addr) (c2 : Nat) (l2 : List (ByteArray × Int)) (a3 : Option Addr) (c3 : Nat) (l3 : List (ByteArray × Int)) (a4 : Option Addr) (c4 : Nat) (l4 : List (ByteArray × Int)) (a5 : Option Addr) (c5 : Nat) (l5 : List (ByteArray × Int)) (a6 : Option Addr) (c6 : Nat) (l6 : List (ByteArray × Int)) (w : World)
    (hl2 : l2.length ≤ 9223372036854775807) (hr2 : Row w a2 l2) (hl3 : l3.length ≤ 9223372036854775807) (hr3 : Row w a3 l3) (hl4 : l4.length ≤ 9223372036854775807) (hr4 : Row w a4 l4) (hl5 : l5.length ≤ 9223372036854775807) (hr5 : Row w a5 l5) (hl6 : l6.length ≤ 9223372036854775807) (hr6 : Row w a6 l6) :
    Calls Try.prog 23 #[.string p0, .string p1, .slice a2 l2.length c2, .slice a3 l3.length c3, .slice a4 l4.length c4, .slice a5 l5.length c5, .slice a6 l6.length c6] w fun e w' => IsBool e ∧ w' = w := by
  go_enter Try.func23, Try.ntmps23
  go_wp2
  all_goals (try (go_ret; exact ⟨IsBool.mk _, rfl⟩))
  go_loop [15, 16] (fun t i => ∃ k : Nat, k ≤ l2.length ∧ i = .int .i64 k ∧ ∃ n : Int, t = .int .i64 n) (fun _ i => l2.length - (intOf i).toNat)
  case atStart => exact ⟨0, Nat.zero_le _, rfl, _, rfl⟩
  case round =>
    obtain ⟨k2, hk2, rfl, n2, rfl⟩ := hrel
    by_cases hlt2 : k2 < l2.length
    · obtain ⟨b, off, rfl, d0, d1⟩ := hr2 k2 hlt2
      clear hr2
      go_wp2
      all_goals (try (go_ret; exact ⟨IsBool.mk _, rfl⟩))
      go_round
      case rel => exact ⟨k2 + 1, by omega, by go_num, _, rfl⟩
      case measure => simp [intOf]; omega
    · clear hr2
      go_wp2
      all_goals (try (go_ret; exact ⟨IsBool.mk _, rfl⟩))
      go_loop [15, 17] (fun t i => ∃ k : Nat, k ≤ l3.length ∧ i = .int .i64 k ∧ ∃ n : Int, t = .int .i64 n) (fun _ i => l3.length - (intOf i).toNat)
      case atStart => exact ⟨0, Nat.zero_le _, rfl, _, rfl⟩
      case round =>
        obtain ⟨k3, hk3, rfl, n3, rfl⟩ := hrel
        by_cases hlt3 : k3 < l3.length
        · obtain ⟨b, off, rfl, d0, d1⟩ := hr3 k3 hlt3
          clear hr3
          go_wp2
          all_goals (try (go_ret; exact ⟨IsBool.mk _, rfl⟩))
          go_round
          case rel => exact ⟨k3 + 1, by omega, by go_num, _, rfl⟩
          case measure => simp [intOf]; omega
        · clear hr3
          go_wp2
          all_goals (try (go_ret; exact ⟨IsBool.mk _, rfl⟩))
          go_loop [15, 18] (fun t i => ∃ k : Nat, k ≤ l4.length ∧ i = .int .i64 k ∧ ∃ n : Int, t = .int .i64 n) (fun _ i => l4.length - (intOf i).toNat)
          case atStart => exact ⟨0, Nat.zero_le _, rfl, _, rfl⟩
          case round =>
            obtain ⟨k4, hk4, rfl, n4, rfl⟩ := hrel
            by_cases hlt4 : k4 < l4.length
            · obtain ⟨b, off, rfl, d0, d1⟩ := hr4 k4 hlt4
              clear hr4
              go_wp2
              all_goals (try (go_ret; exact ⟨IsBool.mk _, rfl⟩))
              go_round
              case rel => exact ⟨k4 + 1, by omega, by go_num, _, rfl⟩
              case measure => simp [intOf]; omega
            · clear hr4
              go_wp2
              all_goals (try (go_ret; exact ⟨IsBool.mk _, rfl⟩))
              go_loop [15, 19] (fun t i => ∃ k : Nat, k ≤ l5.length ∧ i = .int .i64 k ∧ ∃ n : Int, t = .int .i64 n) (fun _ i => l5.length - (intOf i).toNat)
              case atStart => exact ⟨0, Nat.zero_le _, rfl, _, rfl⟩
              case round =>
                obtain ⟨k5, hk5, rfl, n5, rfl⟩ := hrel
                by_cases hlt5 : k5 < l5.length
                · obtain ⟨b, off, rfl, d0, d1⟩ := hr5 k5 hlt5
                  clear hr5
                  go_wp2
                  all_goals (try (go_ret; exact ⟨IsBool.mk _, rfl⟩))
                  go_round
                  case rel => exact ⟨k5 + 1, by omega, by go_num, _, rfl⟩
                  case measure => simp [intOf]; omega
                · clear hr5
                  go_wp2
                  all_goals (try (go_ret; exact ⟨IsBool.mk _, rfl⟩))
                  go_loop [15, 20] (fun t i => ∃ k : Nat, k ≤ l6.length ∧ i = .int .i64 k ∧ ∃ n : Int, t = .int .i64 n) (fun _ i => l6.length - (intOf i).toNat)
                  case atStart => exact ⟨0, Nat.zero_le _, rfl, _, rfl⟩
                  case round =>
                    obtain ⟨k6, hk6, rfl, n6, rfl⟩ := hrel
                    by_cases hlt6 : k6 < l6.length
                    · obtain ⟨b, off, rfl, d0, d1⟩ := hr6 k6 hlt6
                      clear hr6
                      go_wp2
                      all_goals (try (go_ret; exact ⟨IsBool.mk _, rfl⟩))
                      go_round
                      case rel => exact ⟨k6 + 1, by omega, by go_num, _, rfl⟩
                      case measure => simp [intOf]; omega
                    · clear hr6
                      go_wp2
                      all_goals (try (go_ret; exact ⟨IsBool.mk _, rfl⟩))

end Go.Proofs.Qxb6612745a
