/- The functions that only read rows of pairs: zzSorted (13), zzValue (36), zzHasPos (19), zzLeq (22), zzKnows (16), zzSame (26), slices.Equal (45). -/
import Derived.Test.Qxb6612745aBase
import Derived.Deep.QuietTactic
import Derived.BigQuiet
namespace Go.Proofs.Qxb6612745a
open Go.RowKit

set_option maxHeartbeats 400000 in
theorem value36 (a : Option Addr) (cap : Nat) (l : List (ByteArray × Int)) (s : ByteArray) (w : World) (hl : l.length ≤ 9223372036854775807) (hr : Row w a l) :
    Calls Try.prog 36 #[.slice a l.length cap, .string s] w fun e w' => e = .returned (.int .u64 (valF l s)) ∧ w' = w := by
  go_enter Try.func36, Try.ntmps36
  go_wp2
  go_loop [5] (fun i => ∃ k : Nat, k ≤ l.length ∧ i = .int .i64 k ∧ Hid (valF l s = valF (l.drop k) s)) (fun i => l.length - (intOf i).toNat)
  case atStart => exact ⟨0, Nat.zero_le _, rfl, rfl⟩
  case round =>
    obtain ⟨k, hk, rfl, HV⟩ := hrel
    by_cases hlt : k < l.length
    · obtain ⟨b, off, rfl, c0, c1⟩ := hr k hlt
      clear hr
      go_wp2
      · have hs := (eqB_iff _ _).1 ‹((at_ l k).fst.toList == s.toList) = true›
        go_ret
        exact ⟨ret_int (by rw [HV.out, drop_at hlt, valF, if_pos hs]), rfl⟩
      · have hs := (eqB_false _ _).1 ‹((at_ l k).fst.toList == s.toList) = false›
        go_round
        case rel => exact ⟨k + 1, by omega, by go_num, by show valF l s = _; rw [HV.out, drop_at hlt, valF, if_neg hs]⟩
        case measure => simp [intOf]; omega
    · clear hr
      go_wp2
      go_ret
      exact ⟨ret_int (by rw [HV.out, List.drop_of_length_le (by omega)]; rfl), rfl⟩

set_option maxHeartbeats 400000 in
theorem haspos19 (a : Option Addr) (cap : Nat) (l : List (ByteArray × Int)) (w : World) (hl : l.length ≤ 9223372036854775807) (hr : Row w a l) :
    Calls Try.prog 19 #[.slice a l.length cap] w fun e w' => e = .returned (.bool (decide (∃ x ∈ l, 0 < x.2))) ∧ w' = w := by
  go_enter Try.func19, Try.ntmps19
  go_wp2
  go_loop [3] (fun i => ∃ k : Nat, k ≤ l.length ∧ i = .int .i64 k ∧ Hid (∀ x ∈ l.take k, x.2 ≤ 0)) (fun i => l.length - (intOf i).toNat)
  case atStart => exact ⟨0, Nat.zero_le _, rfl, by intro x hx; simp at hx⟩
  case round =>
    obtain ⟨k, hk, rfl, HV⟩ := hrel
    by_cases hlt : k < l.length
    · obtain ⟨b, off, rfl, c0, c1⟩ := hr k hlt
      clear hr
      go_wp2
      · have hs : 0 < (at_ l k).snd := by assumption
        go_ret
        exact ⟨ret_true ⟨_, at_mem hlt, hs⟩, rfl⟩
      · have hs : (at_ l k).snd ≤ 0 := by assumption
        go_round
        case rel =>
          refine ⟨k + 1, by omega, by go_num, ?_⟩
          intro x hx
          rw [take_at hlt] at hx
          rcases List.mem_append.1 hx with hx | hx
          · exact HV.out x hx
          · simp at hx; subst hx; omega
        case measure => simp [intOf]; omega
    · clear hr
      go_wp2
      go_ret
      refine ⟨ret_false ?_, rfl⟩
      rintro ⟨x, hx, h0⟩
      have := HV.out x (by rw [List.take_of_length_le (by omega)]; exact hx)
      omega

set_option maxHeartbeats 400000 in
theorem sorted13 (a : Option Addr) (cap : Nat) (l : List (ByteArray × Int)) (w : World) (hl : l.length ≤ 9223372036854775807) (hr : Row w a l) :
    Calls Try.prog 13 #[.slice a l.length cap] w fun e w' => Says (Srt l) e ∧ Below w.heap.size w w' := by
  go_enter Try.func13, Try.ntmps13
  go_wp2
  go_loopw [3] (fun i wr => ∃ k : Nat, 1 ≤ k ∧ i = .int .i64 k ∧ (k ≤ l.length ∨ k = 1) ∧ Hid (∀ i, i + 1 < k → i + 1 < l.length → ltB (at_ l i).1 (at_ l (i + 1)).1 = true) ∧ Below w.heap.size w wr) (fun i _ => l.length - (intOf i).toNat)
  case atStart => exact ⟨1, by omega, rfl, by omega, by intro i hi; omega, Below.refl _ _⟩
  case round =>
    obtain ⟨k, hk1, rfl, hk, HV, hb⟩ := hrel
    by_cases hlt : k < l.length
    · obtain ⟨j, rfl⟩ : ∃ j, k = j + 1 := ⟨k - 1, by omega⟩
      have hrw := hr.below hb
      obtain ⟨b, off, rfl, c0, c1⟩ := hrw j (by omega)
      obtain ⟨b', off', e', c2, c3⟩ := hrw (j + 1) hlt
      simp only [Option.some.injEq, Addr.mk.injEq, and_true] at e'
      obtain ⟨rfl, rfl⟩ := e'
      clear hrw hr
      go_wp2
      go_quiet (fail)
      go_wp2
      · go_ret
        have hs : ltB (at_ l j).1 (at_ l (j + 1)).1 = false := by simpa [ltB] using ‹(!Op.bytesLess (at_ l j).fst.toList (at_ l (j + 1)).fst.toList) = true›
        exact ⟨Says.no fun h => (by rw [h.adj hlt] at hs; cases hs), below_drewN hb _⟩
      · have hs : ltB (at_ l j).1 (at_ l (j + 1)).1 = true := by simpa [ltB] using ‹(!Op.bytesLess (at_ l j).fst.toList (at_ l (j + 1)).fst.toList) = false›
        go_roundw
        case rel =>
          refine ⟨j + 1 + 1, by omega, by go_num, by omega, ?_, below_drewN hb _⟩
          intro i hi h2
          by_cases hij : i = j
          · subst hij; exact hs
          · exact HV.out i (by omega) h2
        case measure => simp [intOf]; omega
    · clear hr
      go_wp2
      go_ret
      exact ⟨Says.yes (srt_of_adj fun i hi => HV.out i (by omega) hi), hb⟩

theorem list_ext {l m : List (ByteArray × Int)} (h : l.length = m.length) (hi : ∀ i, i < l.length → at_ l i = at_ m i) : l = m := by
  refine List.ext_getElem h fun i h1 h2 => ?_
  have := hi i h1
  rwa [at_eq l i h1, at_eq m i h2] at this

/-- Two pairs are one, or their names part, or their counters do: in the walk's words. -/
theorem pair_cases (x y : ByteArray × Int) : (x = y ∧ (x.1.toList == y.1.toList) = true ∧ (x.2 == y.2) = true) ∨ (x ≠ y ∧ (x.1.toList == y.1.toList) = false) ∨ (x ≠ y ∧ (x.1.toList == y.1.toList) = true ∧ (x.2 == y.2) = false) := by
  by_cases h : x.1 = y.1
  · by_cases k : x.2 = y.2
    · exact Or.inl ⟨Prod.ext h k, (eqB_iff _ _).2 h, by simp [k]⟩
    · exact Or.inr (Or.inr ⟨fun e => k (by rw [e]), (eqB_iff _ _).2 h, by simp [k]⟩)
  · exact Or.inr (Or.inl ⟨fun e => h (by rw [e]), (eqB_false _ _).2 h⟩)

theorem guard46 : Try.prog.eqGuardType Try.prog.depth 46 = false := by kernel_rfl
theorem stood46 : Try.prog.stoodInHeld 46 = false := by kernel_rfl

set_option maxHeartbeats 400000 in
theorem equal45 (a a' : Option Addr) (cap cap' : Nat) (l m : List (ByteArray × Int)) (w : World) (hl : l.length ≤ 9223372036854775807) (hr : Row w a l) (hr' : Row w a' m) :
    Calls Try.prog 45 #[.slice a l.length cap, .slice a' m.length cap'] w fun e w' => e = .returned (.bool (decide (l = m))) ∧ Below w.heap.size w w' := by
  by_cases hlen : l.length = m.length
  · have hlen' : ((l.length : Int) != (m.length : Int)) = false := by simp [hlen]
    have HL : Hid (l.length = m.length) := hlen
    clear hlen
    go_enter Try.func45, Try.ntmps45
    go_wp2
    go_loopw [13] (fun i wr => ∃ k : Nat, k ≤ l.length ∧ i = .int .i64 k ∧ Hid (∀ i, i < k → at_ l i = at_ m i) ∧ Below w.heap.size w wr) (fun i _ => l.length - (intOf i).toNat)
    case atStart => exact ⟨0, by omega, rfl, by intro i hi; omega, Below.refl _ _⟩
    case round =>
      obtain ⟨k, hk, rfl, HV, hb⟩ := hrel
      by_cases hlt : k < l.length
      · have hrw := hr.below hb
        have hrw' := hr'.below hb
        obtain ⟨b, off, rfl, c0, c1⟩ := hrw k hlt
        have hltm : k < m.length := by have := HL.out; omega
        obtain ⟨b', off', rfl, c2, c3⟩ := hrw' k hltm
        clear hrw hrw' hr hr'
        have g46 := guard46
        have s46 := stood46
        rcases pair_cases (at_ l k) (at_ m k) with ⟨he, h1, h2⟩ | ⟨he, h1⟩ | ⟨he, h1, h2⟩
        · have HE : Hid (at_ l k = at_ m k) := he
          clear he
          go_wp2
          go_quiet (fail)
          go_wp2
          go_roundw
          case rel =>
            refine ⟨k + 1, by omega, by go_num, ?_, below_drewN hb _⟩
            intro i hi
            by_cases hij : i = k
            · subst hij; exact HE.out
            · exact HV.out i (by omega)
          case measure => simp [intOf]; omega
        all_goals
          have HE : Hid (at_ l k ≠ at_ m k) := he
          clear he
          go_wp2
          go_quiet (fail)
          go_wp2
          go_ret
          exact ⟨ret_false (fun e => HE.out (by rw [e])), below_drewN hb _⟩
      · clear hr hr'
        go_wp2
        go_ret
        exact ⟨ret_true (list_ext HL.out fun i hi => HV.out i (by omega)), hb⟩
  · have hlen' : ((l.length : Int) != (m.length : Int)) = true := by simp; omega
    go_enter Try.func45, Try.ntmps45
    go_wp2
    go_ret
    exact ⟨ret_false (fun e => hlen (by rw [e])), Below.refl _ _⟩

set_option maxHeartbeats 400000 in
theorem same26 (a a' : Option Addr) (cap cap' : Nat) (l m : List (ByteArray × Int)) (w : World) (hl : l.length ≤ 9223372036854775807) (hr : Row w a l) (hr' : Row w a' m) :
    Calls Try.prog 26 #[.slice a l.length cap, .slice a' m.length cap'] w fun e w' => e = .returned (.bool (decide (l = m))) ∧ Below w.heap.size w w' := by
  by_cases hlen : l.length = m.length
  · have hlen' : ((l.length : Int) != (m.length : Int)) = false := by simp [hlen]
    have HL : Hid (l.length = m.length) := hlen
    clear hlen
    go_enter Try.func26, Try.ntmps26
    go_wp2
    go_loopw [5] (fun i wr => ∃ k : Nat, k ≤ l.length ∧ i = .int .i64 k ∧ Hid (∀ i, i < k → at_ l i = at_ m i) ∧ Below w.heap.size w wr) (fun i _ => l.length - (intOf i).toNat)
    case atStart => exact ⟨0, by omega, rfl, by intro i hi; omega, Below.refl _ _⟩
    case round =>
      obtain ⟨k, hk, rfl, HV, hb⟩ := hrel
      by_cases hlt : k < l.length
      · have hrw := hr.below hb
        have hrw' := hr'.below hb
        obtain ⟨b, off, rfl, c0, c1⟩ := hrw k hlt
        have hltm : k < m.length := by have := HL.out; omega
        obtain ⟨b', off', rfl, c2, c3⟩ := hrw' k hltm
        clear hrw hrw' hr hr'
        rcases pair_cases (at_ l k) (at_ m k) with ⟨he, h1, h2⟩ | ⟨he, h1⟩ | ⟨he, h1, h2⟩
        · have HE : Hid (at_ l k = at_ m k) := he
          clear he
          have h3 : ((at_ l k).2 != (at_ m k).2) = false := by simp only [bne, h2]; rfl
          go_wp2
          go_quiet (fail)
          go_wp2
          go_roundw
          case rel =>
            refine ⟨k + 1, by omega, by go_num, ?_, below_drewN hb _⟩
            intro i hi
            by_cases hij : i = k
            · subst hij; exact HE.out
            · exact HV.out i (by omega)
          case measure => simp [intOf]; omega
        · have HE : Hid (at_ l k ≠ at_ m k) := he
          clear he
          go_wp2
          go_quiet (fail)
          go_wp2
          go_ret
          exact ⟨ret_false (fun e => HE.out (by rw [e])), below_drewN hb _⟩
        · have HE : Hid (at_ l k ≠ at_ m k) := he
          clear he
          have h3 : ((at_ l k).2 != (at_ m k).2) = true := by simp only [bne, h2]; rfl
          go_wp2
          go_quiet (fail)
          go_wp2
          go_ret
          exact ⟨ret_false (fun e => HE.out (by rw [e])), below_drewN hb _⟩
      · clear hr hr'
        go_wp2
        go_ret
        exact ⟨ret_true (list_ext HL.out fun i hi => HV.out i (by omega)), hb⟩
  · have hlen' : ((l.length : Int) != (m.length : Int)) = true := by simp; omega
    go_enter Try.func26, Try.ntmps26
    go_wp2
    go_ret
    exact ⟨ret_false (fun e => hlen (by rw [e])), Below.refl _ _⟩

set_option maxHeartbeats 400000 in
theorem leq22 (a a' : Option Addr) (cap cap' : Nat) (l m : List (ByteArray × Int)) (w : World) (hl : l.length ≤ 9223372036854775807) (hm : m.length ≤ 9223372036854775807) (hr : Row w a l) (hr' : Row w a' m) :
    Calls Try.prog 22 #[.slice a l.length cap, .slice a' m.length cap'] w fun e w' => e = .returned (.bool (decide (∀ x ∈ l, x.2 ≤ valF m x.1))) ∧ Below w.heap.size w w' := by
  go_enter Try.func22, Try.ntmps22
  go_wp2
  go_loopw [5] (fun i wr => ∃ k : Nat, k ≤ l.length ∧ i = .int .i64 k ∧ Hid (∀ x ∈ l.take k, x.2 ≤ valF m x.1) ∧ Below w.heap.size w wr) (fun i _ => l.length - (intOf i).toNat)
  case atStart => exact ⟨0, by omega, rfl, by intro x hx; simp at hx, Below.refl _ _⟩
  case round =>
    obtain ⟨k, hk, rfl, HV, hb⟩ := hrel
    by_cases hlt : k < l.length
    · have hrw := hr.below hb
      have hrw' := hr'.below hb
      obtain ⟨b, off, rfl, c0, c1⟩ := hrw k hlt
      clear hr hrw hr'
      go_wp2
      go_quiet ((go_at_call 36; exact Calls.quiet_of_same (value36 _ _ _ _ _ hm (by first | exact hrw' | exact (hrw'.below (below_drewN (Below.refl _ _) _))))))
      go_wp2
      · have hs : valF m (at_ l k).fst < (at_ l k).snd := by assumption
        go_ret
        exact ⟨ret_false (fun h => by have := h _ (at_mem hlt); omega), below_drewN hb _⟩
      · have hs : (at_ l k).snd ≤ valF m (at_ l k).fst := by assumption
        go_roundw
        case rel =>
          refine ⟨k + 1, by omega, by go_num, ?_, below_drewN hb _⟩
          intro x hx
          rw [take_at hlt] at hx
          rcases List.mem_append.1 hx with hx | hx
          · exact HV.out x hx
          · simp at hx; subst hx; exact hs
        case measure => simp [intOf]; omega
    · clear hr hr'
      go_wp2
      go_ret
      exact ⟨ret_true (fun x hx => HV.out x (by rw [List.take_of_length_le (by omega)]; exact hx)), hb⟩

end Go.Proofs.Qxb6612745a
