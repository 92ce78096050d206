import Derived.Test.Qxb6628538aShared
import Derived.Test.Qxb6628538aClass
namespace Go.Proofs.Qxb6628538a
open Go.RowKit

theorem dig_hi (x : Nat → Nat) (i : Nat) (h : i % 2 = 0) : ((x (i / 2) : Int) / 16) = ((Plain.dig x i : Nat) : Int) := by
  unfold Plain.dig; rw [if_pos h]; omega

theorem dig_lo (x : Nat → Nat) (i : Nat) (h : ¬ i % 2 = 0) : ((x (i / 2) : Int) % 16) = ((Plain.dig x i : Nat) : Int) := by
  unfold Plain.dig; rw [if_neg h]; omega

set_option maxHeartbeats 400000 in
theorem digit_any (cs : Array Value) (x : Nat → Nat) (i : Nat) (w : World) (hx : IsId cs x) (hi : i < 40) :
    Calls Try.prog 6 #[.agg cs, .int .i64 (i : Int)] w fun e w' => e = .returned (.int .u8 (Plain.dig x i : Nat)) ∧ w' = w.alloc (.cells cs 23) := by
  obtain ⟨sx, bx, cx⟩ := hx
  have c0 := cx (i / 2) (by omega)
  obtain ⟨g1, c1⟩ := Array.getElem?_eq_some_iff.1 c0
  have b1 := bx (i / 2)
  clear bx cx
  have hi1 : (i : Int) / 2 < 20 := by omega
  have hi2 : (i : Int) < 40 := by omega
  by_cases hp : i % 2 = 0
  · have hb : ((i : Int) % 2 == 0) = true := by simp; omega
    have H : Hid (i % 2 = 0) := hp
    clear hp
    go_enter Try.func6, Try.ntmps6
    go_wp2
    go_ret
    exact ⟨ret_int (dig_hi x i H.out), rfl⟩
  · have hb : ((i : Int) % 2 == 0) = false := by simp; omega
    have H : Hid (¬ i % 2 = 0) := hp
    clear hp
    go_enter Try.func6, Try.ntmps6
    go_wp2
    go_ret
    exact ⟨ret_int (dig_lo x i H.out), rfl⟩

/-- the worlds in which the law's two boxes lie as they were laid -/
def Cls (w : World) (cs ds : Array Value) (w' : World) : Prop := Below (w.heap.size + 2) ((w.alloc (.cells cs 23)).alloc (.cells ds 23)) w'
theorem Cls.refl (w : World) (cs ds : Array Value) : Cls w cs ds ((w.alloc (.cells cs 23)).alloc (.cells ds 23)) := Below.refl _ _
theorem Cls.size {w w' : World} {cs ds : Array Value} (h : Cls w cs ds w') : w.heap.size + 2 ≤ w'.heap.size := by have := Below.size h; simpa using this
theorem Cls.step {w w' w'' : World} {cs ds : Array Value} (h : Cls w cs ds w') (k : Below w'.heap.size w' w'') : Cls w cs ds w'' := Below.trans h (k.mono h.size)
theorem Cls.drew {w w' : World} {cs ds : Array Value} (h : Cls w cs ds w') : Cls w cs ds w'.drew := Below.drew h
theorem Cls.one {w w' : World} {cs ds : Array Value} (h : Cls w cs ds w') : w'.heap[w.heap.size]? = some (.cells cs 23 (0, 0)) := by
  rw [Below.block h _ (by omega)]; exact heap_alloc2_old _ _ _
theorem Cls.two {w w' : World} {cs ds : Array Value} (h : Cls w cs ds w') : w'.heap[w.heap.size + 1]? = some (.cells ds 23 (0, 0)) := by
  rw [Below.block h _ (by omega)]; exact heap_alloc2_new _ _ _
theorem Cls.below {w w' : World} {cs ds : Array Value} (h : Cls w cs ds w') : Below w.heap.size w w' :=
  (((Below.refl _ w).alloc (Nat.le_refl _) _).alloc (by simp) _).trans (Below.mono h (by omega))
theorem info23 {cs : Array Value} (h : cs.size = 20) : (Try.prog.info? 23).map (·.size) = some cs.size := by rw [h]; kernel_rfl

set_option maxHeartbeats 2000000 in
theorem law1 (cs ds : Array Value) (x y : Nat → Nat) (w : World) (hx : IsId cs x) (hy : IsId ds y) :
    Calls Try.prog 3 #[.agg cs, .agg ds] w fun e w' => e = .returned (.bool true) ∧ Below w.heap.size w w' := by
  have i1 := info23 hx.1
  have i2 := info23 hy.1
  have I1 : Hid _ := i1
  have I2 : Hid _ := i2
  clear i1 i2
  go_enter Try.func3, Try.ntmps3
  go_wp2_with (first
    | refine wpList_load_row rfl 23 (.tmp 2) rfl w.heap.size rfl 23 cs (0, 0) _ (Cls.refl w cs ds).one Try.underlying23 rfl I1.out ?_
    | refine wpList_load_row rfl 23 (.tmp 3) rfl (w.heap.size + 1) rfl 23 ds (0, 0) _ (Cls.refl w cs ds).two Try.underlying23 rfl I2.out ?_)
  refine (shared_any cs ds x y _ hx hy).mono ?_
  rintro e w1 ⟨rfl, hb⟩
  have hC := (Cls.refl w cs ds).step hb
  clear hb
  have hle := Plain.sh_le (Plain.dig x) (Plain.dig y)
  have hsy := Plain.sh_symm (Plain.dig x) (Plain.dig y)
  have hL := Plain.sh_lcp (Plain.dig x) (Plain.dig y)
  generalize hr : Plain.sh (Plain.dig x) (Plain.dig y) = r at *
  have hr1 : (r : Int) ≤ 40 := by omega
  have Hsy : Hid _ := hsy
  have HL : Hid _ := hL
  clear hsy hL hr
  go_wp2_with (first
    | refine wpList_load_row rfl 23 (.tmp 2) rfl w.heap.size rfl 23 cs (0, 0) _ hC.one Try.underlying23 rfl I1.out ?_
    | refine wpList_load_row rfl 23 (.tmp 3) rfl (w.heap.size + 1) rfl 23 ds (0, 0) _ hC.two Try.underlying23 rfl I2.out ?_)
  refine (shared_any ds cs y x _ hy hx).mono ?_
  rintro e w2 ⟨rfl, hb⟩
  have hC2 := hC.step hb
  clear hb hC w1
  rw [Hsy.out]
  have hne : ((r : Int) != (r : Int)) = false := by simp
  go_wp2_with fail
  go_loopw [6] (fun t w' => ∃ k : Nat, k ≤ r ∧ t = .int .i64 k ∧ Cls w cs ds w') (fun t _ => r - (intOf t).toNat)
  case atStart => exact ⟨0, by omega, rfl, hC2⟩
  case round =>
    obtain ⟨k, hk, rfl, hC⟩ := hrel
    by_cases hlt : k < r
    · have e1 := HL.out.2.1 k hlt
      have E1 : Hid _ := e1
      clear e1
      have i1 : (k : Int) < (r : Int) := by omega
      go_wp2_with fail
      refine region_class (Cls w cs ds) (by kernel_rfl) (by kernel_rfl) hC.drew ?_
      refine q_load rfl 23 (.tmp 2) rfl w.heap.size rfl 23 cs (0, 0) _ (fun _ h => h.one) Try.underlying23 rfl I1.out ?_
      refine q_move rfl (.tmp 6) rfl (.int .i64 k) rfl ?_
      refine q_call rfl 6 #[.agg cs, .int .i64 k] (fun w' => by go_simp) (.int .u8 (Plain.dig x k : Nat)) (fun w' h => (digit_any cs x k w' hx (by omega)).mono ?_) ?_
      · rintro e w'' ⟨rfl, rfl⟩
        exact ⟨rfl, h.step ((Below.refl _ _).alloc (Nat.le_refl _) _)⟩
      refine q_load rfl 23 (.tmp 3) rfl (w.heap.size + 1) rfl 23 ds (0, 0) _ (fun _ h => h.two) Try.underlying23 rfl I2.out ?_
      refine q_move rfl (.tmp 6) rfl (.int .i64 k) rfl ?_
      refine q_call rfl 6 #[.agg ds, .int .i64 k] (fun w' => by go_simp) (.int .u8 (Plain.dig x k : Nat)) (fun w' h => (digit_any ds y k w' hy (by omega)).mono ?_) ?_
      · rintro e w'' ⟨rfl, rfl⟩
        exact ⟨by rw [E1.out], h.step ((Below.refl _ _).alloc (Nat.le_refl _) _)⟩
      refine q_value rfl (.bool false) (fun w' => by go_simp) ?_
      refine wpQuiet_nil ?_
      intro w' hC'
      clear hC
      simp only [Act.put, List.setIfInBounds_toArray, List.set_cons_zero, List.set_cons_succ]
      go_wp2
      go_roundw
      case rel => exact ⟨k + 1, by omega, by go_num, hC'⟩
      case measure => simp [intOf]; omega
    · have hkr : k = r := by omega
      subst hkr
      by_cases h40 : k < 40
      · have e1 := HL.out.2.2 h40
        have i1 : (k : Int) < 40 := by omega
        have hne : ((Plain.dig x k : Int) == (Plain.dig y k : Int)) = false := by simp; omega
        clear e1
        go_wp2_with fail
        refine region_class (Cls w cs ds) (by kernel_rfl) (by kernel_rfl) hC.drew ?_
        refine q_move rfl (.tmp 5) rfl (.int .i64 k) rfl ?_
        simp only [Act.put, List.setIfInBounds_toArray, List.set_cons_zero, List.set_cons_succ]
        refine q_value rfl (.bool true) (fun w' => by go_simp) ?_
        simp only [Act.put, List.setIfInBounds_toArray, List.set_cons_zero, List.set_cons_succ]
        refine q_move rfl (.tmp 34) rfl (.bool true) rfl ?_
        simp only [Act.put, List.setIfInBounds_toArray, List.set_cons_zero, List.set_cons_succ]
        refine q_load rfl 23 (.tmp 2) rfl w.heap.size rfl 23 cs (0, 0) _ (fun _ h => h.one) Try.underlying23 rfl I1.out ?_
        simp only [Act.put, List.setIfInBounds_toArray, List.set_cons_zero, List.set_cons_succ]
        refine q_move rfl (.tmp 5) rfl (.int .i64 k) rfl ?_
        simp only [Act.put, List.setIfInBounds_toArray, List.set_cons_zero, List.set_cons_succ]
        refine q_call rfl 6 #[.agg cs, .int .i64 k] (fun w' => by go_simp) (.int .u8 (Plain.dig x k : Nat)) (fun w' h => (digit_any cs x k w' hx (by omega)).mono ?_) ?_
        · rintro e w'' ⟨rfl, rfl⟩
          exact ⟨rfl, h.step ((Below.refl _ _).alloc (Nat.le_refl _) _)⟩
        simp only [Act.put, List.setIfInBounds_toArray, List.set_cons_zero, List.set_cons_succ]
        refine q_load rfl 23 (.tmp 3) rfl (w.heap.size + 1) rfl 23 ds (0, 0) _ (fun _ h => h.two) Try.underlying23 rfl I2.out ?_
        simp only [Act.put, List.setIfInBounds_toArray, List.set_cons_zero, List.set_cons_succ]
        refine q_move rfl (.tmp 5) rfl (.int .i64 k) rfl ?_
        simp only [Act.put, List.setIfInBounds_toArray, List.set_cons_zero, List.set_cons_succ]
        refine q_call rfl 6 #[.agg ds, .int .i64 k] (fun w' => by go_simp) (.int .u8 (Plain.dig y k : Nat)) (fun w' h => (digit_any ds y k w' hy (by omega)).mono ?_) ?_
        · rintro e w'' ⟨rfl, rfl⟩
          exact ⟨rfl, h.step ((Below.refl _ _).alloc (Nat.le_refl _) _)⟩
        simp only [Act.put, List.setIfInBounds_toArray, List.set_cons_zero, List.set_cons_succ]
        refine q_value rfl (.bool false) (fun w' => by go_simp) ?_
        simp only [Act.put, List.setIfInBounds_toArray, List.set_cons_zero, List.set_cons_succ]
        refine q_value rfl (.bool false) (fun w' => by go_simp) ?_
        simp only [Act.put, List.setIfInBounds_toArray, List.set_cons_zero, List.set_cons_succ]
        refine wpQuiet_nil ?_
        intro w' hC'
        clear hC
        go_wp2
        go_ret
        exact ⟨rfl, hC'.below⟩
      · have i1 : decide ((k : Int) < 40) = false := by simp; omega
        go_wp2_with fail
        refine region_class (Cls w cs ds) (by kernel_rfl) (by kernel_rfl) hC.drew ?_
        refine q_move rfl (.tmp 5) rfl (.int .i64 k) rfl ?_
        simp only [Act.put, List.setIfInBounds_toArray, List.set_cons_zero, List.set_cons_succ]
        refine q_value rfl (.bool false) (fun w' => by go_simp) ?_
        simp only [Act.put, List.setIfInBounds_toArray, List.set_cons_zero, List.set_cons_succ]
        refine q_move rfl (.tmp 34) rfl (.bool false) rfl ?_
        simp only [Act.put, List.setIfInBounds_toArray, List.set_cons_zero, List.set_cons_succ]
        refine q_skip rfl ?_
        simp only [Act.put, List.setIfInBounds_toArray, List.set_cons_zero, List.set_cons_succ]
        refine q_skip rfl ?_
        simp only [Act.put, List.setIfInBounds_toArray, List.set_cons_zero, List.set_cons_succ]
        refine q_skip rfl ?_
        simp only [Act.put, List.setIfInBounds_toArray, List.set_cons_zero, List.set_cons_succ]
        refine q_skip rfl ?_
        simp only [Act.put, List.setIfInBounds_toArray, List.set_cons_zero, List.set_cons_succ]
        refine q_skip rfl ?_
        simp only [Act.put, List.setIfInBounds_toArray, List.set_cons_zero, List.set_cons_succ]
        refine q_skip rfl ?_
        simp only [Act.put, List.setIfInBounds_toArray, List.set_cons_zero, List.set_cons_succ]
        refine q_skip rfl ?_
        simp only [Act.put, List.setIfInBounds_toArray, List.set_cons_zero, List.set_cons_succ]
        refine q_value rfl (.bool false) (fun w' => by go_simp) ?_
        simp only [Act.put, List.setIfInBounds_toArray, List.set_cons_zero, List.set_cons_succ]
        refine wpQuiet_nil ?_
        intro w' hC'
        clear hC
        go_wp2
        go_ret
        exact ⟨rfl, hC'.below⟩
end Go.Proofs.Qxb6628538a
