/- A slice of integers that came in: its elements as a row. -/
import Derived.Test.Qxb6612866aBase
namespace Go.Proofs.Qxb6612866a
open Go.RowKit

theorem spot_none {w : World} {x : Addr} {v : Value} (h : w.cell? (x.add 0) = some v) : x.spot = none := by
  simp only [Addr.add, if_pos] at h
  unfold World.cell? at h
  split at h
  · split at h
    · cases h
    · rename_i h'; simpa using h'
  · cases h

theorem add_spot {x : Addr} (h : x.spot = none) (j : Nat) : x.add j = ⟨x.block, x.off + j, none⟩ := by
  obtain ⟨b, o, sp⟩ := x
  simp only at h
  subst h
  unfold Addr.add
  split
  · rename_i h; subst h; rfl
  · rfl

theorem row_of_cells {w : World} {x : Addr} {len : Nat} {zs : List Int} (hl : len ≤ zs.length) (hc : ∀ i, i < zs.length → w.cell? (x.add i) = some (.int .i64 (zs.getD i 0))) : Row w (some x) (zs.take len) := by
  intro i hi
  have hi' : i < len := by rw [List.length_take] at hi; omega
  have hsp := spot_none (hc 0 (by omega))
  refine ⟨x.block, x.off, ?_, ?_⟩
  · obtain ⟨b, o, sp⟩ := x
    simp only at hsp
    subst hsp; rfl
  · have := hc i (by omega)
    rw [add_spot hsp] at this
    rw [this]
    simp [at_, hi']

end Go.Proofs.Qxb6612866a
