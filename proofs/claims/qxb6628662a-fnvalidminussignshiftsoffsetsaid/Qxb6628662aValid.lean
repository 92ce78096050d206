import Derived.Test.Qxb6628662aSplit
import Derived.Test.Qxb6628662aAut
namespace Go.Proofs.Qxb6628662a
open Go.RowKit

theorem bad_ok {o : Option Nat} (h : o = none) : bad o = -1 := by rw [h]; rfl

set_option maxHeartbeats 400000 in
theorem valid_any (a : Option Addr) (len cap : Nat) (l : List Int) (w : World) (h : Sl w a len cap l) :
    Calls Try.prog 6 #[.slice a len cap] w fun e w' => e = .returned (.tuple #[.int .i64 (vAt (Plain.split l)), .bool (vOk (Plain.split l))]) ∧ Below w.heap.size w w' := by
  go_enter Try.func6, Try.ntmps6
  go_wp2_with fail
  refine (split_any a len cap l _ h).mono ?_
  rintro e w1 ⟨⟨b0, b1, a2, n2, c2, a3, n3, c3, a4, n4, c4, rfl⟩, hb⟩
  have hb1 : Below w.heap.size w w1 := hb
  have HBB : Hid (Below w.heap.size w w1) := hb1
  clear hb hb1
  cases ho : Plain.split l with
  | none =>
    have HO : Hid _ := ho
    clear ho
    rw [bad_ok rfl]
    go_wp2_with fail
    go_ret2
    exact ⟨by rw [HO.out]; rfl, HBB.out.alloc HBB.out.size _⟩
  | some i =>
    have HO : Hid _ := ho
    clear ho
    rw [bad_some rfl]
    go_wp2_with fail
    go_ret2
    exact ⟨by rw [HO.out]; rfl, HBB.out.alloc HBB.out.size _⟩
end Go.Proofs.Qxb6628662a
