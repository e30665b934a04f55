/- ZZmakeEager (13). -/
import Derived.Test.Qxb6612866aEager
import Derived.Test.Qxb6612866aMatch
namespace Go.Proofs.Qxb6612866a
open Go.RowKit

set_option maxHeartbeats 400000 in
theorem eager13 (B bn : Nat) (an au : Option Addr) (cn cu : Nat) (lz ow : Value) (l : List Int) (F : List Bool) (u : List Int) (v : Int) (n : Nat) (f : Int → Option Value) (w : World) (hB : B ≤ bn) (hO : Off an bn) (hN : Nd w bn (.slice an l.length cn) lz (.slice au u.length cu) ow) (hr : Row w an l) (ha : Asc l) (hl : l.length ≤ 1000000)
    (hF : F.length = l.length) (hL : Lz w B bn an lz F) (hu : Row w au u) (hul : u.length ≤ 1000000) (hu1 : Off au bn) (hu2 : ∀ g, blockOf lz = some g → Off au g) (hOw : Ow w B bn lz ow n f) (hf : IsLazy l F v → f v = none) :
    Calls Try.prog 13 #[.pointer (some ⟨bn, 0, none⟩), .int .i64 v] w fun e w' => Done e ∧ Eager B bn an cn l lz (.slice au u.length cu) ow F u v n f w w' := by
  go_enter Try.func13, Try.ntmps13
  go_wp2_with fail
  refine (eager22 B bn an au cn cu lz ow l F u v n f w hB hO hN hr ha hl hF hL hu hul hu1 hu2 hOw hf).mono ?_
  rintro e w1 ⟨he, h1⟩
  obtain rfl : e = .returned (.tuple #[]) := he
  have H1 : Hid (Eager B bn an cn l lz (.slice au u.length cu) ow F u v n f w w1) := h1
  clear h1
  go_wp2_with fail
  first | (refine bodyPost_ret (results_none rfl _ _ _) rfl ?_) | ((try simp only [Exit.inBlock, Exit.then]); refine bodyPost_end (results_none rfl _ _ _) rfl ?_)
  exact ⟨rfl, H1.out⟩

end Go.Proofs.Qxb6612866a
