import Derived.Test.Qxb6628538aRows
import Derived.Test.Qxb6628538aPlain
import Derived.WalkKit
import Derived.WalkSpells
import Derived.WalkLawsBesides
import Derived.Deep.QuietTactic
import Derived.BigQuiet
namespace Go.Proofs.Qxb6628538a
open Go.RowKit

/-- the cells of an id whose bytes are x -/
def IsId (cs : Array Value) (x : Nat → Nat) : Prop := cs.size = 20 ∧ (∀ i, x i < 256) ∧ ∀ i, i < 20 → cs[i]? = some (.int .u8 (x i : Int))

theorem xor_val {a b : Nat} (ha : a < 256) (hb : b < 256) : bits .xor .u8 (a : Int) (b : Int) = ((a ^^^ b : Nat) : Int) := u8_xor_nat a b ha hb
theorem and_val {a b : Nat} (ha : a < 256) (hb : b < 256) : bits .and .u8 (bits .xor .u8 (a : Int) (b : Int)) 240 = (((a ^^^ b) &&& 240 : Nat) : Int) := by
  rw [xor_val ha hb]
  exact u8_and_nat (a ^^^ b) 240 (Nat.xor_lt_two_pow (n := 8) ha hb) (by omega)
theorem way_same {a b : Nat} (ha : a < 256) (hb : b < 256) (h : (bits .xor .u8 (a : Int) (b : Int) != 0) = false) : a = b := by
  rw [xor_val ha hb] at h
  rw [← Plain.xor_eq_zero]
  simp at h
  omega
theorem way_diff {a b : Nat} (ha : a < 256) (hb : b < 256) (h : (bits .xor .u8 (a : Int) (b : Int) != 0) = true) : a ≠ b := by
  rw [xor_val ha hb] at h
  intro e
  rw [← Plain.xor_eq_zero] at e
  simp [e] at h
theorem way_hi {a b : Nat} (ha : a < 256) (hb : b < 256) (h : (bits .and .u8 (bits .xor .u8 (a : Int) (b : Int)) 240 != 0) = true) : a / 16 ≠ b / 16 := by
  rw [and_val ha hb] at h
  intro e
  rw [← Plain.xor_hi ha hb] at e
  simp [e] at h
theorem way_lo {a b : Nat} (ha : a < 256) (hb : b < 256) (h : (bits .and .u8 (bits .xor .u8 (a : Int) (b : Int)) 240 != 0) = false) : a / 16 = b / 16 := by
  rw [and_val ha hb] at h
  rw [← Plain.xor_hi ha hb]
  simp at h
  omega

theorem ret_int {k : IntKind} {a b : Int} (h : a = b) : Ending.returned (.int k a) = .returned (.int k b) := by rw [h]
theorem below2 (w : World) (o p : Obj) (n : Nat) : Below w.heap.size w (((w.alloc o).alloc p).drewN n) :=
  below_drewN (((Below.refl _ _).alloc (Nat.le_refl _) _).alloc (by simp) _) n

set_option maxHeartbeats 400000 in
theorem shared_any (cs ds : Array Value) (x y : Nat → Nat) (w : World) (hx : IsId cs x) (hy : IsId ds y) :
    Calls Try.prog 5 #[.agg cs, .agg ds] w fun e w' => e = .returned (.int .i64 (Plain.sh (Plain.dig x) (Plain.dig y) : Nat)) ∧ Below w.heap.size w w' := by
  obtain ⟨sx, bx, cx⟩ := hx
  obtain ⟨sy, by', cy⟩ := hy
  go_enter Try.func5, Try.ntmps5
  go_wp2
  go_loopw [7] (fun t w' => ∃ k n : Nat, k ≤ 20 ∧ t = .int .i64 k ∧ (∀ j, j < k → x j = y j) ∧ w' = ((w.alloc (.cells cs 23)).alloc (.cells ds 23)).drewN n) (fun t _ => 20 - (intOf t).toNat)
  case atStart => exact ⟨0, 0, by omega, rfl, fun j h => by omega, rfl⟩
  case round =>
    obtain ⟨k, n, hk, rfl, heq, rfl⟩ := hrel
    by_cases hlt : k < 20
    · obtain ⟨g1, c1⟩ := Array.getElem?_eq_some_iff.1 (cx k hlt)
      obtain ⟨g2, c2⟩ := Array.getElem?_eq_some_iff.1 (cy k hlt)
      have b1 := bx k
      have b2 := by' k
      have i1 : (k : Int) < 20 := by omega
      have H : Hid (∀ j, j < k → x j = y j) := heq
      clear heq cx cy bx by'
      go_wp2
      go_quiet (fail)
      go_wp2
      · go_ret
        exact ⟨ret_int (by rw [Plain.lcp_sh (Plain.lcp_hi hlt H.out (way_hi b1 b2 ‹_›))]; omega), below2 _ _ _ _⟩
      · go_ret
        exact ⟨ret_int (by rw [Plain.lcp_sh (Plain.lcp_lo hlt H.out (way_lo b1 b2 ‹_›) (way_diff b1 b2 ‹_›))]; omega), below2 _ _ _ _⟩
      · go_roundw
        case rel =>
          have hs := way_same b1 b2 ‹_›
          exact ⟨k + 1, _, by omega, by go_num, fun j hj => (by
            by_cases e : j = k
            · rw [e]; exact hs
            · exact H.out j (by omega)), rfl⟩
        case measure => simp [intOf]; omega
    · have : k = 20 := by omega
      subst this
      go_wp2
      go_ret
      exact ⟨ret_int (by rw [Plain.lcp_sh (Plain.lcp_all heq)]; omega), below2 _ _ _ _⟩
end Go.Proofs.Qxb6628538a
