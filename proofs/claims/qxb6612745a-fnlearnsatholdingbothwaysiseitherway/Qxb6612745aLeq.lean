/- vtp.Time.Leq (37). -/
import Derived.Test.Qxb6612745aTime
import Derived.Test.Qxb6612745aRead
import Derived.Deep.QuietTactic
import Derived.BigQuiet
namespace Go.Proofs.Qxb6612745a
open Go.RowKit

theorem Row.head {w : World} {a : Option Addr} {l : List (ByteArray × Int)} {j : Nat} (h : Row w a (l.drop j)) (hj : j < l.length) :
    ∃ b off, a = some ⟨b, off, none⟩ ∧ w.cell? ⟨b, off, none⟩ = some (.string (at_ l j).1) ∧ w.cell? ⟨b, off + 1, none⟩ = some (.int .u64 (at_ l j).2) := by
  obtain ⟨b, off, e, c0, c1⟩ := h 0 (by simp; omega)
  refine ⟨b, off, e, ?_, ?_⟩
  · simpa [at_drop] using c0
  · simpa [at_drop] using c1

theorem Row.next {w : World} {b off cap : Nat} {l : List (ByteArray × Int)} {j : Nat} (h : Row w (some ⟨b, off, none⟩) (l.drop j)) (hj : j < l.length) (hc : l.length - j ≤ cap) :
    Row w (if cap = 1 then some ⟨b, off, none⟩ else some ⟨b, off + 2, none⟩) (l.drop (j + 1)) := by
  split
  · intro i hi
    simp at hi
    omega
  · rw [drop_at hj] at h
    exact h.tail

/-- A slice's length, for a loop's measure. -/
def slLen : Value → Nat | .slice _ n _ => n | _ => 0

set_option maxHeartbeats 1000000 in
theorem leq37 (a a' : Option Addr) (cap cap' : Nat) (t u : List (ByteArray × Int)) (w : World) (ht : t.length ≤ 1000000) (hu : u.length ≤ 1000000) (hc' : u.length ≤ cap')
    (st : Srt t) (su : Srt u) (pu : Pos u) (hr : Row w a t) (hr' : Row w a' u) :
    Calls Try.prog 37 #[.slice a t.length cap, .slice a' u.length cap'] w fun e w' => Says (LE t u) e ∧ Below w.heap.size w w' := by
  have ST : Hid (Srt t) := st
  have SU : Hid (Srt u) := su
  have PU : Hid (Pos u) := pu
  clear st su pu
  go_enter Try.func37, Try.ntmps37
  go_wp2
  go_loopw [9, 1] (fun i v wr => ∃ (k j : Nat) (a2 : Option Addr) (cap2 : Nat), k ≤ t.length ∧ i = .int .i64 k ∧ j ≤ u.length ∧ v = .slice a2 (u.length - j) cap2 ∧ u.length - j ≤ cap2 ∧ Row wr a2 (u.drop j) ∧ Hid (LeqInv t u k j) ∧ Below w.heap.size w wr) (fun i _ _ => t.length - (intOf i).toNat)
  case atStart => exact ⟨0, 0, a', cap', by omega, rfl, by omega, rfl, by omega, by simpa using hr', LeqInv.start t u, Below.refl _ _⟩
  case round =>
    obtain ⟨k, j0, a2, cap2, hk, rfl, hj0, rfl, hc2, R2, HI, hb⟩ := hrel
    by_cases hlt : k < t.length
    · have hrw := hr.below hb
      obtain ⟨b, off, rfl, c0, c1⟩ := hrw k hlt
      clear hrw hr hr'
      have hal : Below wr.heap.size wr (wr.alloc (.cells #[.string (at_ t k).1, .int .u64 (at_ t k).2] 46)) := (Below.refl _ _).alloc (Nat.le_refl _) _
      have R3 := R2.below hal
      have hb3 : Below w.heap.size w (wr.alloc (.cells #[.string (at_ t k).1, .int .u64 (at_ t k).2] 46)) := hb.alloc hb.size _
      clear R2 hal
      go_wp2
      go_loopw [1] (fun v wi => ∃ (j : Nat) (a2 : Option Addr) (cap2 : Nat), j ≤ u.length ∧ v = .slice a2 (u.length - j) cap2 ∧ u.length - j ≤ cap2 ∧ Row wi a2 (u.drop j) ∧ Hid (LeqInv t u k j) ∧ wi.cell? ⟨wr.heap.size, 0, none⟩ = some (.string (at_ t k).1) ∧ wi.cell? ⟨wr.heap.size, 1, none⟩ = some (.int .u64 (at_ t k).2) ∧ Below w.heap.size w wi) (fun v _ => slLen v)
      case atStart => exact ⟨j0, a2, cap2, hj0, rfl, hc2, R3, HI, by simp, by simp, hb3⟩
      case round =>
        clear HI R3 hb3 hb c0 c1 hj0 hc2
        obtain ⟨j, a3, cap3, hj, rfl, hc3, R, HI, x0, x1, hb⟩ := hrel
        by_cases hjl : j < u.length
        · obtain ⟨b2, off2, rfl, y0, y1⟩ := R.head hjl
          have j1 : 0 < u.length - j := by omega
          by_cases hlx : ltB (at_ u j).1 (at_ t k).1 = true
          · have hlx' : Op.bytesLess (at_ u j).1.toList (at_ t k).1.toList = true := hlx
            have HL : Hid (ltB (at_ u j).1 (at_ t k).1 = true) := hlx
            clear hlx
            have hcc : 1 ≤ cap3 := by omega
            have hjj : 1 ≤ u.length - j := by omega
            go_wp2
            go_quiet (fail)
            go_wp2
            go_roundw
            case rel => exact ⟨j + 1, _, _, by omega, by rw [show u.length - (j + 1) = u.length - j - 1 by omega], by omega, (R.next hjl hc3).below (below_drewN (Below.refl _ _) _), HI.out.pass hlt hjl ST.out HL.out, by simpa using x0, by simpa using x1, below_drewN hb _⟩
            case measure => simp [slLen]; omega
          · have hlx0 : ltB (at_ u j).1 (at_ t k).1 = false := by simpa using hlx
            have hlx' : Op.bytesLess (at_ u j).1.toList (at_ t k).1.toList = false := hlx0
            have hval := HI.out.val hlt SU.out (Or.inr ⟨hjl, hlx0⟩)
            have HL : Hid (valF u (at_ t k).1 = if (at_ u j).1 = (at_ t k).1 then (at_ u j).2 else 0) := by
              rw [if_neg (by omega)] at hval; exact hval
            clear hlx hlx0 hval
            by_cases hn0 : 0 < (at_ t k).2
            · have j2 : ((u.length - j : Nat) == 0) = false := by simp; omega
              have j3 : (((u.length - j : Nat) : Int) == 0) = false := by simp; omega
              by_cases hnm : (at_ u j).1 = (at_ t k).1
              · have h1 : ((at_ u j).1.toList == (at_ t k).1.toList) = true := (eqB_iff _ _).2 hnm
                have HL2 : Hid (valF u (at_ t k).1 = (at_ u j).2) := by
                  show valF u (at_ t k).1 = (at_ u j).2
                  rw [HL.out, if_pos hnm]
                clear hnm HL
                by_cases hgt : (at_ u j).2 < (at_ t k).2
                · go_wp2
                  go_quiet (fail)
                  go_wp2
                  go_quiet (fail)
                  go_wp2
                  go_ret
                  exact ⟨Says.no (LE_not ST.out hlt (by rw [HL2.out]; exact hgt)), by first | exact below_drewN hb _ | exact below_drewN (below_drewN hb _) _⟩
                · have hgt' : decide ((at_ u j).2 < (at_ t k).2) = false := by simp; omega
                  go_wp2
                  go_quiet (fail)
                  go_wp2
                  go_quiet (fail)
                  go_wp2
                  go_roundw
                  case rel => exact ⟨k + 1, j, _, _, by omega, by go_num, hj, rfl, hc3, R.below (below_drewN (Below.refl _ _) _), HI.out.next hlt (by rw [HL2.out]; omega), by first | exact below_drewN hb _ | exact below_drewN (below_drewN hb _) _⟩
                  case measure => simp [intOf]; omega
              · have h1 : ((at_ u j).1.toList == (at_ t k).1.toList) = false := (eqB_false _ _).2 hnm
                have HL2 : Hid (valF u (at_ t k).1 = 0) := by
                  show valF u (at_ t k).1 = 0
                  rw [HL.out, if_neg hnm]
                clear hnm HL
                go_wp2
                go_quiet (fail)
                go_wp2
                go_quiet (fail)
                go_wp2
                go_ret
                exact ⟨Says.no (LE_not ST.out hlt (by rw [HL2.out]; exact hn0)), by first | exact below_drewN hb _ | exact below_drewN (below_drewN hb _) _⟩
            · have hn0' : decide (0 < (at_ t k).2) = false := by simp; omega
              have HN : Hid ((at_ t k).2 ≤ valF u (at_ t k).1) := by
                show (at_ t k).2 ≤ valF u (at_ t k).1
                have := valF_nonneg PU.out (at_ t k).1
                omega
              clear HL
              go_wp2
              go_quiet (fail)
              go_wp2
              go_quiet (fail)
              go_wp2
              go_roundw
              case rel => exact ⟨k + 1, j, _, _, by omega, by go_num, hj, rfl, hc3, R.below (below_drewN (Below.refl _ _) _), HI.out.next hlt HN.out, by first | exact below_drewN hb _ | exact below_drewN (below_drewN hb _) _⟩
              case measure => simp [intOf]; omega
        · have j1 : decide (0 < u.length - j) = false := by simp; omega
          have HL : Hid (valF u (at_ t k).1 = 0) := by
            have := HI.out.val hlt SU.out (Or.inl (by omega))
            rw [if_pos (by omega)] at this
            exact this
          by_cases hn0 : 0 < (at_ t k).2
          · have j2 : ((u.length - j : Nat) == 0) = true := by simp; omega
            have j3 : (((u.length - j : Nat) : Int) == 0) = true := by simp; omega
            go_wp2
            go_quiet (fail)
            go_wp2
            go_quiet (fail)
            go_wp2
            go_ret
            exact ⟨Says.no (LE_not ST.out hlt (by rw [HL.out]; exact hn0)), by first | exact below_drewN hb _ | exact below_drewN (below_drewN hb _) _⟩
          · have hn0' : decide (0 < (at_ t k).2) = false := by simp; omega
            go_wp2
            go_quiet (fail)
            go_wp2
            go_quiet (fail)
            go_wp2
            go_roundw
            case rel => exact ⟨k + 1, j, _, _, by omega, by go_num, hj, rfl, hc3, R.below (below_drewN (Below.refl _ _) _), HI.out.next hlt (by rw [HL.out]; omega), by first | exact below_drewN hb _ | exact below_drewN (below_drewN hb _) _⟩
            case measure => simp [intOf]; omega
    · clear hr hr'
      go_wp2
      go_ret
      exact ⟨Says.yes (HI.out.done (by omega) ST.out PU.out), hb⟩

end Go.Proofs.Qxb6612745a
