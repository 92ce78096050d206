import Derived.Test.Qxb6628538aShared
import Derived.RegionTactic
import Derived.BigRegion
namespace Go.Proofs.Qxb6628538a
open Go.RowKit

/-- the worlds in which the law's four boxes lie as they were laid -/
def Cls4 (w : World) (c0 c1 c2 c3 : Array Value) (w' : World) : Prop := Below (w.heap.size + 4) ((((w.alloc (.cells c0 23)).alloc (.cells c1 23)).alloc (.cells c2 23)).alloc (.cells c3 23)) w'
section
variable {w w' w'' : World} {c0 c1 c2 c3 : Array Value}
theorem Cls4.refl (w : World) (c0 c1 c2 c3 : Array Value) : Cls4 w c0 c1 c2 c3 ((((w.alloc (.cells c0 23)).alloc (.cells c1 23)).alloc (.cells c2 23)).alloc (.cells c3 23)) := Below.refl _ _
theorem Cls4.size (h : Cls4 w c0 c1 c2 c3 w') : w.heap.size + 4 ≤ w'.heap.size := by have := Below.size h; simpa using this
theorem Cls4.step (h : Cls4 w c0 c1 c2 c3 w') (k : Below w'.heap.size w' w'') : Cls4 w c0 c1 c2 c3 w'' := Below.trans h (k.mono h.size)
theorem Cls4.alloc (h : Cls4 w c0 c1 c2 c3 w') (o : Obj) : Cls4 w c0 c1 c2 c3 (w'.alloc o) := Below.alloc h h.size o
theorem Cls4.drew (h : Cls4 w c0 c1 c2 c3 w') : Cls4 w c0 c1 c2 c3 w'.drew := Below.drew h
theorem Cls4.setCell (h : Cls4 w c0 c1 c2 c3 w') {p : Addr} (hp : w.heap.size + 4 ≤ p.block) (v : Value) : Cls4 w c0 c1 c2 c3 (w'.setCell p v) := Below.setCell h hp v
theorem Cls4.b0 (h : Cls4 w c0 c1 c2 c3 w') : w'.heap[w.heap.size]? = some (.cells c0 23 (0, 0)) := by
  rw [Below.block h _ (by omega), Below.heap_alloc _ _ _ (by simp; omega), Below.heap_alloc _ _ _ (by simp; omega)]; exact heap_alloc2_old _ _ _
theorem Cls4.b1 (h : Cls4 w c0 c1 c2 c3 w') : w'.heap[w.heap.size + 1]? = some (.cells c1 23 (0, 0)) := by
  rw [Below.block h _ (by omega), Below.heap_alloc _ _ _ (by simp only [World.size_alloc]; omega), Below.heap_alloc _ _ _ (by simp only [World.size_alloc]; omega)]; exact heap_alloc2_new _ _ _
theorem Cls4.b2 (h : Cls4 w c0 c1 c2 c3 w') : w'.heap[w.heap.size + 2]? = some (.cells c2 23 (0, 0)) := by
  rw [Below.block h _ (by omega), Below.heap_alloc _ _ _ (by simp)]
  have := heap_alloc_new ((w.alloc (.cells c0 23)).alloc (.cells c1 23)) (.cells c2 23)
  simpa using this
theorem Cls4.b3 (h : Cls4 w c0 c1 c2 c3 w') : w'.heap[w.heap.size + 3]? = some (.cells c3 23 (0, 0)) := by
  rw [Below.block h _ (by omega)]
  have := heap_alloc_new (((w.alloc (.cells c0 23)).alloc (.cells c1 23)).alloc (.cells c2 23)) (.cells c3 23)
  simpa using this
theorem Cls4.below (h : Cls4 w c0 c1 c2 c3 w') : Below w.heap.size w w' :=
  (((((Below.refl _ w).alloc (Nat.le_refl _) _).alloc (by simp) _).alloc (by simp only [World.size_alloc]; omega) _).alloc (by simp only [World.size_alloc]; omega) _).trans (Below.mono h (by omega))
end
theorem info23' {cs : Array Value} (h : cs.size = 20) : (Try.prog.info? 23).map (·.size) = some cs.size := by rw [h]; kernel_rfl

/-- the bytes of x ^ u up to k, zeros behind -/
def xc (x u : Nat → Nat) (k : Nat) : Array Value := ((List.range 20).map fun i => if i < k then Value.int .u8 ((x i ^^^ u i : Nat) : Int) else .int .u8 0).toArray
theorem xc_size (x u : Nat → Nat) (k : Nat) : (xc x u k).size = 20 := by simp [xc]
theorem xc_at (x u : Nat → Nat) (k i : Nat) (hi : i < 20) : (xc x u k)[i]? = some (if i < k then Value.int .u8 ((x i ^^^ u i : Nat) : Int) else .int .u8 0) := by
  simp [xc, hi]
theorem xc_set (x u : Nat → Nat) (k : Nat) : (xc x u k).setIfInBounds k (.int .u8 ((x k ^^^ u k : Nat) : Int)) = xc x u (k + 1) := by
  apply Array.ext_getElem?
  intro i
  by_cases hi : i < 20
  · rw [xc_at x u (k + 1) i hi]
    by_cases e : k = i
    · subst e
      rw [Array.getElem?_setIfInBounds_self_of_lt (by rw [xc_size]; exact hi), if_pos (by omega)]
    · rw [Array.getElem?_setIfInBounds_ne e, xc_at x u k i hi]
      by_cases h : i < k
      · rw [if_pos h, if_pos (by omega)]
      · rw [if_neg h, if_neg (by omega)]
  · rw [Array.getElem?_eq_none (by simp [xc_size]; omega), Array.getElem?_eq_none (by rw [xc_size]; omega)]
theorem xc_id (x u : Nat → Nat) (hx : ∀ i, x i < 256) (hu : ∀ i, u i < 256) : IsId (xc x u 20) (fun i => x i ^^^ u i) :=
  ⟨xc_size x u 20, fun i => Nat.xor_lt_two_pow (n := 8) (hx i) (hu i), fun i hi => by rw [xc_at x u 20 i hi, if_pos hi]⟩

/-- what holds at the head of round k -/
def Rel (w : World) (c0 c1 c2 c3 : Array Value) (B : Nat) (x y u : Nat → Nat) (k : Nat) (w' : World) : Prop :=
  Cls4 w c0 c1 c2 c3 w' ∧ w.heap.size + 4 ≤ B ∧ w'.heap[B]? = some (.cells (xc x u k) 23 (0, 0)) ∧ w'.heap[B + 1]? = some (.cells (xc y u k) 23 (0, 0))
section
variable {w w' : World} {c0 c1 c2 c3 : Array Value} {x y u : Nat → Nat} {B k : Nat}
theorem Rel.start (h : Cls4 w c0 c1 c2 c3 w') : Rel w c0 c1 c2 c3 w'.heap.size x y u 0 ((w'.alloc (.cells (xc x u 0) 23)).alloc (.cells (xc y u 0) 23)) :=
  ⟨(h.alloc _).alloc _, h.size, heap_alloc2_old _ _ _, heap_alloc2_new _ _ _⟩
theorem Rel.x0 (h : Rel w c0 c1 c2 c3 B x y u k w') (hx : IsId c0 x) (hk : k < 20) : w'.cell? ⟨w.heap.size, k, none⟩ = some (.int .u8 (x k : Int)) := by
  rw [cell_of_row w' _ k c0 23 (0, 0) h.1.b0]; exact hx.2.2 k hk
theorem Rel.x3 (h : Rel w c0 c1 c2 c3 B x y u k w') (hu : IsId c3 u) (hk : k < 20) : w'.cell? ⟨w.heap.size + 1 + 1 + 1, k, none⟩ = some (.int .u8 (u k : Int)) := by
  rw [cell_of_row w' _ k c3 23 (0, 0) h.1.b3]; exact hu.2.2 k hk
theorem Rel.x4 (h : Rel w c0 c1 c2 c3 B x y u k w') (hk : k < 20) : w'.cell? ⟨B, k, none⟩ = some (.int .u8 0) := by
  rw [cell_of_row w' _ k _ 23 (0, 0) h.2.2.1, xc_at x u k k hk, if_neg (by omega)]
theorem set_row (wx : World) (g k : Nat) (a b : Nat → Nat) (ha : a k < 256) (hb : b k < 256) (j : Nat) (h : wx.heap[g]? = some (.cells (xc a b k) 23 (0, 0))) (hj : j = k) :
    ((wx.setCell ⟨g, j, none⟩ (.int .u8 (bits .xor .u8 (a k : Int) (b k : Int)))).drew).heap[g]? = some (.cells (xc a b (k + 1)) 23 (0, 0)) := by
  subst hj
  rw [heap_drew, heap_setCell_same wx g j _ 23 _ h, xor_val ha hb, xc_set]
/-- what holds behind the first store of round k -/
def Mid (w : World) (c0 c1 c2 c3 : Array Value) (B : Nat) (x y u : Nat → Nat) (k : Nat) (w' : World) : Prop :=
  Cls4 w c0 c1 c2 c3 w' ∧ w.heap.size + 4 ≤ B ∧ w'.heap[B]? = some (.cells (xc x u (k + 1)) 23 (0, 0)) ∧ w'.heap[B + 1]? = some (.cells (xc y u k) 23 (0, 0))
theorem Rel.mid (h : Rel w c0 c1 c2 c3 B x y u k w') (hx : IsId c0 x) (hu : IsId c3 u) : Mid w c0 c1 c2 c3 B x y u k (w'.setCell ⟨B, k, none⟩ (.int .u8 (bits .xor .u8 (x k : Int) (u k : Int)))).drew :=
  ⟨(h.1.setCell h.2.1 _).drew, h.2.1, set_row w' B k x u (hx.2.1 k) (hu.2.1 k) k h.2.2.1 rfl, by rw [heap_drew, heap_setCell_other _ _ _ _ (by simp)]; exact h.2.2.2⟩
theorem Mid.next (h : Mid w c0 c1 c2 c3 B x y u k w') (hy : IsId c1 y) (hu : IsId c3 u) : Rel w c0 c1 c2 c3 B x y u (k + 1) (w'.setCell ⟨B + 1, k, none⟩ (.int .u8 (bits .xor .u8 (y k : Int) (u k : Int)))).drew :=
  ⟨(h.1.setCell (by have := h.2.1; simp; omega) _).drew, h.2.1, by rw [heap_drew, heap_setCell_other _ _ _ _ (by simp)]; exact h.2.2.1, set_row w' (B + 1) k y u (hy.2.1 k) (hu.2.1 k) k h.2.2.2 rfl⟩
theorem Mid.x1 (h : Mid w c0 c1 c2 c3 B x y u k w') (hy : IsId c1 y) (hk : k < 20) : w'.cell? ⟨w.heap.size + 1, k, none⟩ = some (.int .u8 (y k : Int)) := by
  rw [cell_of_row w' _ k c1 23 (0, 0) h.1.b1]; exact hy.2.2 k hk
theorem Mid.x3 (h : Mid w c0 c1 c2 c3 B x y u k w') (hu : IsId c3 u) (hk : k < 20) : w'.cell? ⟨w.heap.size + 1 + 1 + 1, k, none⟩ = some (.int .u8 (u k : Int)) := by
  rw [cell_of_row w' _ k c3 23 (0, 0) h.1.b3]; exact hu.2.2 k hk
theorem Mid.x4 (h : Mid w c0 c1 c2 c3 B x y u k w') (hk : k < 20) : w'.cell? ⟨B + 1, k, none⟩ = some (.int .u8 0) := by
  rw [cell_of_row w' _ k _ 23 (0, 0) h.2.2.2, xc_at y u k k hk, if_neg (by omega)]
theorem Mid.f4 (h : Mid w c0 c1 c2 c3 B x y u k w') (_hk : k < 20) : w'.frozen? ⟨B + 1, k, none⟩ = false := frozen_of_row w' (B + 1) k _ 23 h.2.2.2
theorem sh_same (x y u : Nat → Nat) : Plain.sh (Plain.dig fun i => x i ^^^ u i) (Plain.dig fun i => y i ^^^ u i) = Plain.sh (Plain.dig x) (Plain.dig y) :=
  Plain.sh_xor (k := Plain.dig u) (fun i _ => Plain.dig_xor x u i) (fun i _ => Plain.dig_xor y u i)
theorem Rel.f4 (h : Rel w c0 c1 c2 c3 B x y u k w') (_hk : k < 20) : w'.frozen? ⟨B, k, none⟩ = false := frozen_of_row w' B k _ 23 h.2.2.1
end

set_option maxHeartbeats 1000000 in
theorem law2 (c0 c1 c2 c3 : Array Value) (x y z u : Nat → Nat) (w : World) (hx : IsId c0 x) (hy : IsId c1 y) (hz : IsId c2 z) (hu : IsId c3 u) :
    Calls Try.prog 4 #[.agg c0, .agg c1, .agg c2, .agg c3] w fun e w' => e = .returned (.bool true) ∧ Below w.heap.size w w' := by
  have I0 : Hid _ := info23' hx.1
  have I1 : Hid _ := info23' hy.1
  have I2 : Hid _ := info23' hz.1
  have I3 : Hid _ := info23' hu.1
  have U : Hid _ := Plain.sh_ultra (Plain.dig x) (Plain.dig y) (Plain.dig z)
  have S : Hid _ := Plain.sh_self (Plain.dig x)
  have la := Plain.sh_le (Plain.dig x) (Plain.dig y)
  have lb := Plain.sh_le (Plain.dig y) (Plain.dig z)
  have lc := Plain.sh_le (Plain.dig x) (Plain.dig z)
  go_enter Try.func4, Try.ntmps4
  go_wp2_with (first
    | refine wpList_load_row rfl 23 (.tmp 4) rfl w.heap.size rfl 23 c0 (0, 0) _ (Cls4.refl w c0 c1 c2 c3).b0 Try.underlying23 rfl I0.out ?_)
  refine (shared_any c0 c0 x x _ hx hx).mono ?_
  rintro e w1 ⟨rfl, hb⟩
  have hC := (Cls4.refl w c0 c1 c2 c3).step hb
  clear hb
  rw [S.out]
  go_wp2_with (first
    | refine wpList_load_row rfl 23 (.tmp 4) rfl w.heap.size rfl 23 c0 (0, 0) _ hC.b0 Try.underlying23 rfl I0.out ?_
    | refine wpList_load_row rfl 23 (.tmp 5) rfl (w.heap.size + 1) rfl 23 c1 (0, 0) _ hC.b1 Try.underlying23 rfl I1.out ?_)
  refine (shared_any c0 c1 x y _ hx hy).mono ?_
  rintro e w2 ⟨rfl, hb⟩
  have hC2 := hC.step hb
  clear hb hC w1
  go_wp2_with (first
    | refine wpList_load_row rfl 23 (.tmp 5) rfl (w.heap.size + 1) rfl 23 c1 (0, 0) _ hC2.b1 Try.underlying23 rfl I1.out ?_
    | refine wpList_load_row rfl 23 (.tmp 6) rfl (w.heap.size + 2) rfl 23 c2 (0, 0) _ hC2.b2 Try.underlying23 rfl I2.out ?_)
  refine (shared_any c1 c2 y z _ hy hz).mono ?_
  rintro e w3 ⟨rfl, hb⟩
  have hC3 := hC2.step hb
  clear hb hC2 w2
  go_wp2_with (first
    | refine wpList_load_row rfl 23 (.tmp 4) rfl w.heap.size rfl 23 c0 (0, 0) _ hC3.b0 Try.underlying23 rfl I0.out ?_
    | refine wpList_load_row rfl 23 (.tmp 6) rfl (w.heap.size + 2) rfl 23 c2 (0, 0) _ hC3.b2 Try.underlying23 rfl I2.out ?_)
  refine (shared_any c0 c2 x z _ hx hz).mono ?_
  rintro e w4 ⟨rfl, hb⟩
  have hC4 := hC3.step hb
  clear hb hC3 w3
  generalize ha : Plain.sh (Plain.dig x) (Plain.dig y) = a at *
  generalize Plain.sh (Plain.dig y) (Plain.dig z) = b at *
  generalize Plain.sh (Plain.dig x) (Plain.dig z) = c at *
  have HA : Hid _ := ha
  clear ha
  obtain ⟨u1, u2⟩ := U.out
  have hsz := hC4.size
  rcases Nat.lt_trichotomy b a with hab | hab | hab
  · have e1 : c = b := by have := u2 (by omega); omega
    have hne : ((a : Int) != (b : Int)) = true := by simp; omega
    clear u1 u2 U
    subst e1
    go_wp2_with fail
    go_loopw [15] (fun t w' => ∃ k : Nat, k ≤ 20 ∧ t = .int .i64 k ∧ Rel w c0 c1 c2 c3 w4.heap.size x y u k w') (fun t _ => 20 - (intOf t).toNat)
    case atStart => exact ⟨0, by omega, rfl, Rel.start hC4⟩
    case round =>
      obtain ⟨k, hk, rfl, hR⟩ := hrel
      by_cases hlt : k < 20
      · have f0 := hR.x0 hx hlt
        have f3 := hR.x3 hu hlt
        have f4 := hR.x4 hlt
        have f5 := hR.f4 hlt
        have i1 : (k : Int) < 20 := by omega
        go_wp2_with fail
        go_region
        have hM := hR.mid hx hu
        clear hR f0 f3 f4 f5
        generalize (wr.setCell ⟨w4.heap.size, k, none⟩ (.int .u8 (bits .xor .u8 (x k : Int) (u k : Int)))).drew = wm at hM ⊢
        have f1 := hM.x1 hy hlt
        have f3 := hM.x3 hu hlt
        have f4 := hM.x4 hlt
        have f5 := hM.f4 hlt
        clear wr
        go_wp2_with fail
        go_region
        have hN := hM.next hy hu
        clear hM f1 f3 f4 f5
        generalize (wm.setCell ⟨w4.heap.size + 1, k, none⟩ (.int .u8 (bits .xor .u8 (y k : Int) (u k : Int)))).drew = wn at hN ⊢
        clear wm
        go_wp2_with fail
        go_roundw
        case rel => exact ⟨k + 1, by omega, by go_num, hN⟩
        case measure => simp [intOf]; omega
      · have hk20 : k = 20 := by omega
        subst hk20
        have J1 : Hid _ := info23' (xc_size x u 20)
        have J2 : Hid _ := info23' (xc_size y u 20)
        go_wp2_with (first
          | refine wpList_load_row rfl 23 (.tmp 13) rfl w4.heap.size rfl 23 (xc x u 20) (0, 0) _ hR.2.2.1 Try.underlying23 rfl J1.out ?_
          | refine wpList_load_row rfl 23 (.tmp 14) rfl (w4.heap.size + 1) rfl 23 (xc y u 20) (0, 0) _ hR.2.2.2 Try.underlying23 rfl J2.out ?_)
        refine (shared_any (xc x u 20) (xc y u 20) _ _ _ (xc_id x u hx.2.1 hu.2.1) (xc_id y u hy.2.1 hu.2.1)).mono ?_
        rintro e w5 ⟨rfl, hb⟩
        have hC5 := hR.1.step hb
        clear hb hR
        rw [sh_same x y u, HA.out]
        go_wp2_with fail
        go_ret
        exact ⟨rfl, hC5.below⟩
  · subst hab
    have e2 : b ≤ c := by omega
    clear u1 u2 U
    go_wp2_with fail
    go_loopw [15] (fun t w' => ∃ k : Nat, k ≤ 20 ∧ t = .int .i64 k ∧ Rel w c0 c1 c2 c3 w4.heap.size x y u k w') (fun t _ => 20 - (intOf t).toNat)
    case atStart => exact ⟨0, by omega, rfl, Rel.start hC4⟩
    case round =>
      obtain ⟨k, hk, rfl, hR⟩ := hrel
      by_cases hlt : k < 20
      · have f0 := hR.x0 hx hlt
        have f3 := hR.x3 hu hlt
        have f4 := hR.x4 hlt
        have f5 := hR.f4 hlt
        have i1 : (k : Int) < 20 := by omega
        go_wp2_with fail
        go_region
        have hM := hR.mid hx hu
        clear hR f0 f3 f4 f5
        generalize (wr.setCell ⟨w4.heap.size, k, none⟩ (.int .u8 (bits .xor .u8 (x k : Int) (u k : Int)))).drew = wm at hM ⊢
        have f1 := hM.x1 hy hlt
        have f3 := hM.x3 hu hlt
        have f4 := hM.x4 hlt
        have f5 := hM.f4 hlt
        clear wr
        go_wp2_with fail
        go_region
        have hN := hM.next hy hu
        clear hM f1 f3 f4 f5
        generalize (wm.setCell ⟨w4.heap.size + 1, k, none⟩ (.int .u8 (bits .xor .u8 (y k : Int) (u k : Int)))).drew = wn at hN ⊢
        clear wm
        go_wp2_with fail
        go_roundw
        case rel => exact ⟨k + 1, by omega, by go_num, hN⟩
        case measure => simp [intOf]; omega
      · have hk20 : k = 20 := by omega
        subst hk20
        have J1 : Hid _ := info23' (xc_size x u 20)
        have J2 : Hid _ := info23' (xc_size y u 20)
        go_wp2_with (first
          | refine wpList_load_row rfl 23 (.tmp 13) rfl w4.heap.size rfl 23 (xc x u 20) (0, 0) _ hR.2.2.1 Try.underlying23 rfl J1.out ?_
          | refine wpList_load_row rfl 23 (.tmp 14) rfl (w4.heap.size + 1) rfl 23 (xc y u 20) (0, 0) _ hR.2.2.2 Try.underlying23 rfl J2.out ?_)
        refine (shared_any (xc x u 20) (xc y u 20) _ _ _ (xc_id x u hx.2.1 hu.2.1) (xc_id y u hy.2.1 hu.2.1)).mono ?_
        rintro e w5 ⟨rfl, hb⟩
        have hC5 := hR.1.step hb
        clear hb hR
        rw [sh_same x y u, HA.out]
        go_wp2_with fail
        go_ret
        exact ⟨rfl, hC5.below⟩
  · have e1 : c = a := by have := u2 (by omega); omega
    have hne : ((a : Int) != (b : Int)) = true := by simp; omega
    clear u1 u2 U
    subst e1
    go_wp2_with fail
    go_loopw [15] (fun t w' => ∃ k : Nat, k ≤ 20 ∧ t = .int .i64 k ∧ Rel w c0 c1 c2 c3 w4.heap.size x y u k w') (fun t _ => 20 - (intOf t).toNat)
    case atStart => exact ⟨0, by omega, rfl, Rel.start hC4⟩
    case round =>
      obtain ⟨k, hk, rfl, hR⟩ := hrel
      by_cases hlt : k < 20
      · have f0 := hR.x0 hx hlt
        have f3 := hR.x3 hu hlt
        have f4 := hR.x4 hlt
        have f5 := hR.f4 hlt
        have i1 : (k : Int) < 20 := by omega
        go_wp2_with fail
        go_region
        have hM := hR.mid hx hu
        clear hR f0 f3 f4 f5
        generalize (wr.setCell ⟨w4.heap.size, k, none⟩ (.int .u8 (bits .xor .u8 (x k : Int) (u k : Int)))).drew = wm at hM ⊢
        have f1 := hM.x1 hy hlt
        have f3 := hM.x3 hu hlt
        have f4 := hM.x4 hlt
        have f5 := hM.f4 hlt
        clear wr
        go_wp2_with fail
        go_region
        have hN := hM.next hy hu
        clear hM f1 f3 f4 f5
        generalize (wm.setCell ⟨w4.heap.size + 1, k, none⟩ (.int .u8 (bits .xor .u8 (y k : Int) (u k : Int)))).drew = wn at hN ⊢
        clear wm
        go_wp2_with fail
        go_roundw
        case rel => exact ⟨k + 1, by omega, by go_num, hN⟩
        case measure => simp [intOf]; omega
      · have hk20 : k = 20 := by omega
        subst hk20
        have J1 : Hid _ := info23' (xc_size x u 20)
        have J2 : Hid _ := info23' (xc_size y u 20)
        go_wp2_with (first
          | refine wpList_load_row rfl 23 (.tmp 13) rfl w4.heap.size rfl 23 (xc x u 20) (0, 0) _ hR.2.2.1 Try.underlying23 rfl J1.out ?_
          | refine wpList_load_row rfl 23 (.tmp 14) rfl (w4.heap.size + 1) rfl 23 (xc y u 20) (0, 0) _ hR.2.2.2 Try.underlying23 rfl J2.out ?_)
        refine (shared_any (xc x u 20) (xc y u 20) _ _ _ (xc_id x u hx.2.1 hu.2.1) (xc_id y u hy.2.1 hu.2.1)).mono ?_
        rintro e w5 ⟨rfl, hb⟩
        have hC5 := hR.1.step hb
        clear hb hR
        rw [sh_same x y u, HA.out]
        go_wp2_with fail
        go_ret
        exact ⟨rfl, hC5.below⟩
end Go.Proofs.Qxb6628538a
