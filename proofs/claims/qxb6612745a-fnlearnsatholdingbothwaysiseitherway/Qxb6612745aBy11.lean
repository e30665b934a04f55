/- The bound on the total length, function 11: it hands back a bool and turns nothing. -/
import Derived.Test.Qxb6612745aBase
namespace Go.Proofs.Qxb6612745a
open Go.RowKit

set_option maxRecDepth 100000 in
set_option maxHeartbeats 4000000 in
theorem bytes11 (p0 : ByteArray) (a1 : Option Addr) (c1 : Nat) (l1 : List (ByteArray × Int)) (a2 : Option Addr) (c2 : Nat) (l2 : List (ByteArray × Int)) (a3 : Option Addr) (c3 : Nat) (l3 : List (ByteArray × Int)) (a4 : Option Addr) (c4 : Nat) (l4 : List (ByteArray × Int)) (w : World)
    (hl1 : l1.length ≤ 9223372036854775807) (hr1 : Row w a1 l1) (hl2 : l2.length ≤ 9223372036854775807) (hr2 : Row w a2 l2) (hl3 : l3.length ≤ 9223372036854775807) (hr3 : Row w a3 l3) (hl4 : l4.length ≤ 9223372036854775807) (hr4 : Row w a4 l4) :
    Calls Try.prog 11 #[.string p0, .slice a1 l1.length c1, .slice a2 l2.length c2, .slice a3 l3.length c3, .slice a4 l4.length c4] w fun e w' => IsBool e ∧ w' = w := by
  go_enter Try.func11, Try.ntmps11
  go_wp2
  all_goals (try (go_ret; exact ⟨IsBool.mk _, rfl⟩))
  go_loop [11, 12] (fun t i => ∃ k : Nat, k ≤ l1.length ∧ i = .int .i64 k ∧ ∃ n : Int, t = .int .i64 n) (fun _ i => l1.length - (intOf i).toNat)
  case atStart => exact ⟨0, Nat.zero_le _, rfl, _, rfl⟩
  case round =>
    obtain ⟨k1, hk1, rfl, n1, rfl⟩ := hrel
    by_cases hlt1 : k1 < l1.length
    · obtain ⟨b, off, rfl, d0, d1⟩ := hr1 k1 hlt1
      clear hr1
      go_wp2
      all_goals (try (go_ret; exact ⟨IsBool.mk _, rfl⟩))
      go_round
      case rel => exact ⟨k1 + 1, by omega, by go_num, _, rfl⟩
      case measure => simp [intOf]; omega
    · clear hr1
      go_wp2
      all_goals (try (go_ret; exact ⟨IsBool.mk _, rfl⟩))
      go_loop [11, 13] (fun t i => ∃ k : Nat, k ≤ l2.length ∧ i = .int .i64 k ∧ ∃ n : Int, t = .int .i64 n) (fun _ i => l2.length - (intOf i).toNat)
      case atStart => exact ⟨0, Nat.zero_le _, rfl, _, rfl⟩
      case round =>
        obtain ⟨k2, hk2, rfl, n2, rfl⟩ := hrel
        by_cases hlt2 : k2 < l2.length
        · obtain ⟨b, off, rfl, d0, d1⟩ := hr2 k2 hlt2
          clear hr2
          go_wp2
          all_goals (try (go_ret; exact ⟨IsBool.mk _, rfl⟩))
          go_round
          case rel => exact ⟨k2 + 1, by omega, by go_num, _, rfl⟩
          case measure => simp [intOf]; omega
        · clear hr2
          go_wp2
          all_goals (try (go_ret; exact ⟨IsBool.mk _, rfl⟩))
          go_loop [11, 14] (fun t i => ∃ k : Nat, k ≤ l3.length ∧ i = .int .i64 k ∧ ∃ n : Int, t = .int .i64 n) (fun _ i => l3.length - (intOf i).toNat)
          case atStart => exact ⟨0, Nat.zero_le _, rfl, _, rfl⟩
          case round =>
            obtain ⟨k3, hk3, rfl, n3, rfl⟩ := hrel
            by_cases hlt3 : k3 < l3.length
            · obtain ⟨b, off, rfl, d0, d1⟩ := hr3 k3 hlt3
              clear hr3
              go_wp2
              all_goals (try (go_ret; exact ⟨IsBool.mk _, rfl⟩))
              go_round
              case rel => exact ⟨k3 + 1, by omega, by go_num, _, rfl⟩
              case measure => simp [intOf]; omega
            · clear hr3
              go_wp2
              all_goals (try (go_ret; exact ⟨IsBool.mk _, rfl⟩))
              go_loop [11, 15] (fun t i => ∃ k : Nat, k ≤ l4.length ∧ i = .int .i64 k ∧ ∃ n : Int, t = .int .i64 n) (fun _ i => l4.length - (intOf i).toNat)
              case atStart => exact ⟨0, Nat.zero_le _, rfl, _, rfl⟩
              case round =>
                obtain ⟨k4, hk4, rfl, n4, rfl⟩ := hrel
                by_cases hlt4 : k4 < l4.length
                · obtain ⟨b, off, rfl, d0, d1⟩ := hr4 k4 hlt4
                  clear hr4
                  go_wp2
                  all_goals (try (go_ret; exact ⟨IsBool.mk _, rfl⟩))
                  go_round
                  case rel => exact ⟨k4 + 1, by omega, by go_num, _, rfl⟩
                  case measure => simp [intOf]; omega
                · clear hr4
                  go_wp2
                  all_goals (try (go_ret; exact ⟨IsBool.mk _, rfl⟩))

end Go.Proofs.Qxb6612745a
