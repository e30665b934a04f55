/- The directory above a path: internal/bytealg.LastIndexByteString (63), strings.LastIndexByte (58), vtp.Parent (52). -/
import Derived.Test.Qxb6612745aBase
namespace Go.Proofs.Qxb6612745a
open Go.RowKit

/-- Where the last c of s stands, or -1. -/
def IsLast (s : ByteArray) (c : Int) (n : Int) : Prop :=
  (n = -1 ∧ ∀ j (h : j < s.size), (s[j].toNat : Int) ≠ c) ∨ ∃ i : Nat, n = i ∧ ∃ h : i < s.size, (s[i].toNat : Int) = c ∧ ∀ j (h : j < s.size), i < j → (s[j].toNat : Int) ≠ c

/-- The call hands back such a place. -/
def Last (s : ByteArray) (c : Int) (e : Ending) : Prop := ∃ n : Int, e = .returned (.int .i64 n) ∧ IsLast s c n

set_option maxHeartbeats 400000 in
theorem last63 (s : ByteArray) (c : Int) (w : World) (hs : s.size ≤ 9223372036854775807) :
    Calls Try.prog 63 #[.string s, .int .u8 c] w fun e w' => Last s c e ∧ w' = w := by
  go_enter Try.func63, Try.ntmps63
  go_wp2
  go_loop [5] (fun i => ∃ k : Nat, k ≤ s.size ∧ i = .int .i64 ((k : Int) - 1) ∧ Hid (∀ j (h : j < s.size), k ≤ j → (s[j].toNat : Int) ≠ c)) (fun i => (intOf i + 1).toNat)
  case atStart => exact ⟨s.size, Nat.le_refl _, by first | rfl | go_num, fun j h hj => absurd h (by omega)⟩
  case round =>
    obtain ⟨k, hk, rfl, HV⟩ := hrel
    by_cases hk0 : k = 0
    · subst hk0
      go_wp2
      go_ret
      exact ⟨⟨-1, rfl, Or.inl ⟨rfl, fun j h => HV.out j h (by omega)⟩⟩, rfl⟩
    · obtain ⟨i, rfl⟩ : ∃ i, k = i + 1 := ⟨k - 1, by omega⟩
      have hi : i < s.size := by omega
      go_wp2
      · have hc : (s[i].toNat : Int) = c := by simpa using ‹((s[i].toNat : Int) == c) = true›
        go_ret
        exact ⟨⟨i, rfl, Or.inr ⟨i, rfl, hi, hc, fun j h hj => HV.out j h (by omega)⟩⟩, rfl⟩
      · have hc : (s[i].toNat : Int) ≠ c := by simpa using ‹((s[i].toNat : Int) == c) = false›
        go_round
        case rel =>
          refine ⟨i, by omega, rfl, ?_⟩
          intro j h hj
          by_cases hij : j = i
          · subst hij; exact hc
          · exact HV.out j h (by omega)
        case measure => simp [intOf]

set_option maxHeartbeats 400000 in
theorem last58 (s : ByteArray) (c : Int) (w : World) (hs : s.size ≤ 9223372036854775807) :
    Calls Try.prog 58 #[.string s, .int .u8 c] w fun e w' => Last s c e ∧ w' = w := by
  go_enter Try.func58, Try.ntmps58
  go_wp2_with fail
  refine (last63 s c _ hs).mono ?_
  rintro e w' ⟨⟨n, rfl, hn⟩, hw⟩
  subst hw
  have HN : Hid (IsLast s c n) := hn
  clear hn
  go_wp2
  go_ret
  exact ⟨⟨n, rfl, HN.out⟩, rfl⟩

/-- q is the directory that holds s: all ahead of the last slash, or nothing. -/
def IsParent (s q : ByteArray) : Prop :=
  ((∀ j (h : j < s.size), s[j] ≠ 47) ∧ q = ByteArray.empty) ∨ ∃ i : Nat, ∃ h : i < s.size, s[i] = 47 ∧ (∀ j (h : j < s.size), i < j → s[j] ≠ 47) ∧ q = s.extract 0 i

/-- The call hands back the directory above. -/
def Par (s : ByteArray) (e : Ending) : Prop := ∃ q : ByteArray, e = .returned (.string q) ∧ IsParent s q

theorem byte47 (b : UInt8) : (b.toNat : Int) = 47 ↔ b = 47 := by
  constructor
  · intro h; exact UInt8.toNat_inj.1 (by rw [show (47 : UInt8).toNat = 47 from rfl]; omega)
  · rintro rfl; rfl

set_option maxHeartbeats 400000 in
theorem parent52 (s : ByteArray) (w : World) (hs : s.size ≤ 9223372036854775807) :
    Calls Try.prog 52 #[.string s] w fun e w' => Par s e ∧ w' = w := by
  go_enter Try.func52, Try.ntmps52
  go_wp2_with fail
  refine (last58 s 47 _ hs).mono ?_
  rintro e w' ⟨⟨n, rfl, hn⟩, hw⟩
  subst hw
  rcases hn with ⟨rfl, hn⟩ | ⟨i, rfl, hi, hc, hn⟩
  · have HN : Hid (∀ j (h : j < s.size), s[j] ≠ 47) := fun j h k => hn j h ((byte47 _).2 k)
    clear hn
    go_wp2
    go_ret
    exact ⟨⟨_, rfl, Or.inl ⟨HN.out, rfl⟩⟩, rfl⟩
  · have HN : Hid (∀ j (h : j < s.size), i < j → s[j] ≠ 47) := fun j h hj k => hn j h hj ((byte47 _).2 k)
    have HC : Hid (s[i] = 47) := (byte47 _).1 hc
    clear hn hc
    go_wp2
    go_ret
    refine ⟨⟨_, rfl, Or.inr ⟨i, hi, HC.out, HN.out, ?_⟩⟩, rfl⟩
    rfl

end Go.Proofs.Qxb6612745a
