import Derived.Test.Qxb6628538aShared
import Derived.ProofKit
import Derived.OpenShut
import Derived.ChangeOld
import Derived.Below
namespace Go.Proofs.Qxb6628538a
open Go.ChangeShapes Go.WideShapes Go.ChangeAt Go.RowKit

theorem own : ownKnob Try.prog.godebug = none := by kernel_rfl
theorem laidOut : laidOutB Try.prog = true := by kernel_rfl
theorem cells5 : Try.prog.cellsOf 5 = 1 := by kernel_rfl
theorem cells23 : Try.prog.cellsOf 23 = 20 := by kernel_rfl

/-- the bytes that the cells hold -/
def bytesOf (cs : Array Value) (i : Nat) : Nat :=
  match cs[i]? with
  | some (.int .u8 n) => n.toNat % 256
  | _ => 0

theorem isId_of (cs : Array Value) (hsz : cs.size = 20) (h : ∀ i, i < 20 → ∃ n : Int, cs[i]? = some (.int .u8 n) ∧ 0 ≤ n ∧ n ≤ 255) : IsId cs (bytesOf cs) := by
  refine ⟨hsz, fun i => ?_, fun i hi => ?_⟩
  · unfold bytesOf; split <;> omega
  · obtain ⟨n, hn, h0, h1⟩ := h i hi
    rw [hn]
    have : bytesOf cs i = n.toNat := by
      unfold bytesOf; rw [hn]; simp; omega
    rw [this]
    congr 2
    omega

/-- AN ID THAT CAME IN, BY VALUE -/
theorem open_id {H : Type} {enc : TypeId × Value → H} {W : World} {base : Nat} {v : Value} {d : DataW H} {p : List MemPlace}
    (hv : Value.okWide Try.prog W .any base 23 v) (h : DataW.Trod enc Try.prog W 0 (fun _ => true) true 23 v d p) : ∃ cs, v = .agg cs ∧ IsId cs (bytesOf cs) := by
  obtain ⟨cs, rfl, hsz, _⟩ : ∃ cs, v = .agg cs ∧ cs.size = Try.prog.cellsOf 23 ∧ Row.okWide Try.prog W .any base 23 cs := by
    simpa [Value.okWide, Try.underlying23] using hv
  rw [cells23] at hsz
  refine ⟨cs, rfl, isId_of cs hsz fun i hi => ?_⟩
  obtain ⟨fuel, hf⟩ := h
  obtain ⟨xs, m, _, ex, hlen, hl, hel⟩ := DataW.trod_array Try.underlying23 hf
  have he := hel i hi
  rw [cells5] at he
  have hxi : xs[i]? = some xs[i] := List.getElem?_eq_getElem (by omega)
  rw [hxi] at he
  obtain ⟨n, e0, _, wn⟩ := DataW.trod_int Try.underlying5 he
  have hb := bounds_u8 wn
  refine ⟨n, ?_, hb.1, hb.2⟩
  have hlt : i < cs.size := by omega
  have h1 : (List.drop (i * 1) (Value.agg cs).cells.toList).take 1 = [cs[i]] := by
    simp only [Value.cells, Nat.mul_one]
    rw [List.drop_eq_getElem_cons (by simpa using hlt)]
    simp
  rw [h1] at e0
  simp at e0
  rw [Array.getElem?_eq_getElem hlt, e0]
end Go.Proofs.Qxb6628538a
