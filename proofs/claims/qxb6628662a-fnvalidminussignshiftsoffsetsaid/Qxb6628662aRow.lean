import Derived.Test.Qxb6628662aDigits
namespace Go.Proofs.Qxb6628662a
open Go.RowKit

theorem Sl.nil {w : World} : Sl w none 0 0 [] := ⟨rfl, Nat.le_refl _, by omega, fun c hc => (by cases hc), fun h => by omega⟩
/-- a slice of bytes that came in -/
theorem Sl.ofRow {w : World} (x : Addr) (len cap : Nat) (zs : List Int) (hl : len ≤ cap) (hm : cap ≤ maxLen) (hz : zs.length = cap) (hc : ∀ i, i < zs.length → w.cell? (x.add i) = some (.int .u8 (zs.getD i 0))) (hw : ∀ n ∈ zs, 0 ≤ n ∧ n ≤ 255) : Sl w (some x) len cap (zs.take len) := by
  unfold maxLen at hm
  refine ⟨by simp; omega, hl, by omega, fun c hcm => hw c (List.mem_of_mem_take hcm), fun h0 => ?_⟩
  obtain ⟨b, off, rfl, hcell⟩ := ints_at hc (by omega)
  refine ⟨b, off, rfl, fun i hi => ?_⟩
  rw [hcell i (by omega)]
  simp [List.getD, hi]
end Go.Proofs.Qxb6628662a
