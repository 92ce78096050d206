import Derived.Test.Qxb6628588aWalk
import Derived.Lib.AppendStr
import Derived.Laws.IdiomStrings
import Derived.OpenShut
namespace Go.Proofs.Qxb6628588a
open Go.RowKit

set_option maxHeartbeats 400000 in
theorem bytes1_small (s : ByteArray) (i c : Int) (w : World) (h : s.size ≤ 1048576) :
    Calls Try.prog 8 #[.string s, .int .i64 i, .int .u8 c] w fun e w' => e = .returned (.bool true) ∧ w' = w := by
  go_enter Try.func8, Try.ntmps8
  go_wp2
  go_ret
  exact ⟨rfl, rfl⟩
set_option maxHeartbeats 400000 in
theorem bytes1_large (s : ByteArray) (i c : Int) (w : World) (h : 1048576 < s.size) :
    Calls Try.prog 8 #[.string s, .int .i64 i, .int .u8 c] w fun e w' => e = .returned (.bool false) ∧ w' = w := by
  go_enter Try.func8, Try.ntmps8
  go_wp2
  all_goals go_ret
  all_goals exact ⟨rfl, rfl⟩

theorem info5 : ∃ i, Try.prog.info? 5 = some i ∧ i.zero = some (.int .u8 0) ∧ i.size = 1 ∧ i.bytes = 1 := info_parts (by kernel_rfl)

/-- the bytes behind the insertion -/
def ins (s : ByteArray) (k : Nat) (c : UInt8) : List UInt8 := s.data.toList.take k ++ c :: s.data.toList.drop k
theorem ins_length (s : ByteArray) (k : Nat) (c : UInt8) (hk : k ≤ s.size) : (ins s k c).length = s.size + 1 := by
  have : s.data.toList.length = s.size := by simp
  unfold ins; simp; omega
theorem ins_cells (s : ByteArray) (k : Nat) (c : UInt8) :
    [] ++ Lib.strCells (s.extract 0 k) ++ [Value.int .u8 (c.toNat : Int)] ++ Lib.strCells (s.extract k s.size) = (ins s k c).map fun b => Value.int .u8 (b.toNat : Int) := by
  unfold ins Lib.strCells
  have e1 : (s.extract 0 k).data.toList = s.data.toList.take k := by simp
  have e2 : (s.extract k s.size).data.toList = s.data.toList.drop k := by
    simp
    exact List.take_of_length_le (by simp)
  rw [e1, e2]
  simp

theorem ins_cd (s : ByteArray) (k : Nat) (c : UInt8) (hk : k ≤ s.size) : cdS ⟨(ins s k c).toArray⟩ = if cdS s < k then cdS s else if Plain.isD c then cdS s + 1 else k := by
  have := Plain.cd_insert s.data.toList k c (by simpa using hk)
  unfold cdS ins
  simpa using this

theorem conv {w : World} {B : Nat} {v : Value} {n : Nat} {xs : List Value} (t : List UInt8) (h : w.ownsRow B 5 1 v n xs) (hn : n = t.length) (hx : xs = t.map fun b => Value.int .u8 (b.toNat : Int)) (h0 : 0 < t.length) :
    ∃ g cap, v = .slice (some ⟨g, 0, none⟩) t.length cap ∧ (convert 26 9 (.slice (some ⟨g, 0, none⟩) t.length cap)).run Try.prog w = .ok (.string ⟨t.toArray⟩) w := by
  subst hn hx
  rcases h.2 with ⟨_, h1⟩ | ⟨g, cap, cur, rfl, _⟩
  · omega
  refine ⟨g, cap, rfl, ?_⟩
  refine run_convert_bytes_back w 26 9 5 ⟨g, 0, none⟩ cap t Try.underlying26 Try.underlying5 Try.underlying9 (fun j hj => ?_)
  exact h.cells rfl j _ (by simp [hj])

set_option maxHeartbeats 1000000 in
theorem insert_in (s : ByteArray) (k : Nat) (c : UInt8) (w : World) (hs : s.size ≤ 1048576) (hk : k ≤ s.size) :
    Calls Try.prog 4 #[.string s, .int .i64 (k : Nat), .int .u8 (c.toNat : Nat)] w fun e w' => e = .returned (.bool true) ∧ Below w.heap.size w w' := by
  obtain ⟨i0, hi, hz0, hz1, hz2⟩ := info5
  have HI : Hid _ := hi
  clear hi
  have p1 : decide ((k : Int) < 0) = false := by simp
  have p2 : decide (s.size < k) = false := by simp; omega
  have hl := ins_length s k c hk
  have HL : Hid _ := hl
  have HC : Hid _ := ins_cells s k c
  clear hl
  go_enter Try.func4, Try.ntmps4
  go_wp2_with (first
    | (go_at_call 8; refine (bytes1_small _ _ _ _ hs).mono ?_; rintro e w0 ⟨rfl, rfl⟩)
    | (at_make; refine wpList_make_own _ rfl _ _ 26 rfl w0.heap.size 5 i0 (.int .u8 0) 1 Try.underlying26 HI.out hz0 hz1 _ _ _ (s.size + 1) rfl rfl ?a1 ?a2 ?a3 ?a4 ?_; (case a1 => omega); (case a2 => rw [hz2]; omega); (case a3 => unfold maxLen; omega); (case a4 => exact Nat.le_refl _); intro w1 o1 g1; have b1 : Below w0.heap.size w0 w1 := (Below.refl _ _).grown g1 (Nat.le_refl _) (fun _ h => by cases h); clear g1)
    | (at_builtin; refine Lib.wpList_append_own_string _ rfl (.tmp 32) (.tmp 35) 26 9 rfl w0.heap.size 5 i0 Try.underlying26 Try.underlying9 HI.out hz0 hz1 hz2 (.slice (some ⟨w0.heap.size, 0, none⟩) 0 (s.size + 1)) 0 [] rfl o1 (s.extract 0 k) rfl ?b1 ?b2 ?b3 ?_; (case b1 => unfold maxLen; simp; omega); (case b2 => simp; omega); (case b3 => exact b1.size); intro v2 w2 o2 g2 _; have b2 : Below w0.heap.size w0 w2 := b1.grown g2 b1.size (fun j h => (o1.lt j h).1); clear g2 o1 b1)
    | (at_builtin; refine wpList_append_own _ rfl (.tmp 37) (.tmp 39) 26 rfl w0.heap.size 5 i0 (.int .u8 0) 1 1 Try.underlying26 HI.out hz0 hz1 hz2 rfl (by decide) v2 _ _ rfl (o2.alloc _) ⟨w2.heap.size, 0, none⟩ 1 1 [.int .u8 c.toNat] rfl rfl (cell_one_new _ _ _) ?c1 ?c2 ?c3 ?c4 ?_; (case c1 => intro u hu; simp at hu; subst hu; rfl); (case c2 => unfold maxLen; simp; omega); (case c3 => simp; omega); (case c4 => have := b2.size; simp; omega); intro v3 w3 o3 g3 _; have b3 : Below w0.heap.size w0 w3 := (b2.alloc b2.size _).grown g3 (by have := b2.size; simp; omega) (fun j h => (o2.lt j h).1); clear g3 o2 b2)
    | (at_builtin; refine Lib.wpList_append_own_string _ rfl (.tmp 41) (.tmp 44) 26 9 rfl w0.heap.size 5 i0 Try.underlying26 Try.underlying9 HI.out hz0 hz1 hz2 v3 _ _ rfl o3 (s.extract k s.size) rfl ?d1 ?d2 ?d3 ?_; (case d1 => unfold maxLen; simp; omega); (case d2 => simp; omega); (case d3 => exact b3.size); intro v4 w4 o4 g4 _; have b4 : Below w0.heap.size w0 w4 := b3.grown g4 b3.size (fun j h => (o3.lt j h).1); clear g4 o3 b3; obtain ⟨gg, cap, rfl, hcv⟩ := conv (ins s k c) o4 (by rw [HL.out]; simp; omega) HC.out (by rw [HL.out]; omega); clear o4))
  have hsm : s.size ≤ maxLen := by unfold maxLen; omega
  refine (count_any s _ hsm).mono ?_
  rintro e w5 ⟨rfl, rfl⟩
  clear hcv
  go_wp2_with fail
  have htm : (⟨(ins s k c).toArray⟩ : ByteArray).size ≤ maxLen := by
    have : (⟨(ins s k c).toArray⟩ : ByteArray).size = s.size + 1 := by rw [← HL.out]; rfl
    unfold maxLen; omega
  refine (count_any _ _ htm).mono ?_
  rintro e w6 ⟨rfl, rfl⟩
  have hcd : Hid _ := ins_cd s k c hk
  have hle := cdS_le s
  generalize cdS ⟨(ins s k c).toArray⟩ = m at *
  generalize hn : cdS s = n at *
  have HN : Hid (cdS s = n) := hn
  clear hn
  by_cases h1 : n < k
  · have e1 : m = n := by have := hcd.out; rw [if_pos h1] at this; exact this
    clear hcd
    subst e1
    go_wp2_with fail
    refine (prefix_any s m HN.out.symm _ hsm).mono ?_
    rintro e w7 ⟨rfl, rfl⟩
    go_wp2_with fail
    go_ret
    exact ⟨rfl, b4⟩
  · by_cases h2 : Plain.isD c = true
    · have e1 : (n : Int) + 1 = (m : Int) := by have := hcd.out; rw [if_neg h1, if_pos h2] at this; omega
      clear hcd
      have hb := isD_bd h2
      have HB : Hid _ := hb
      clear hb h2
      go_wp2_with (go_at_call 9; refine (digit_yes _ _ HB.out.1 HB.out.2).mono ?_; rintro e w7 ⟨rfl, rfl⟩)
      refine (prefix_any s n HN.out.symm _ hsm).mono ?_
      rintro e w7 ⟨rfl, rfl⟩
      go_wp2_with fail
      go_ret
      exact ⟨rfl, b4⟩
    · have e1 : m = k := by have := hcd.out; rw [if_neg h1, if_neg h2] at this; exact this
      clear hcd
      subst e1
      have hb := isD_out (by simpa using h2)
      have HB : Hid _ := hb
      clear hb h2
      go_wp2_with (go_at_call 9; refine (digit_no _ _ HB.out).mono ?_; rintro e w7 ⟨rfl, rfl⟩)
      refine (prefix_any s n HN.out.symm _ hsm).mono ?_
      rintro e w7 ⟨rfl, rfl⟩
      go_wp2_with fail
      go_ret
      exact ⟨rfl, b4⟩

set_option maxHeartbeats 1000000 in
theorem insert_any (s : ByteArray) (i c : Int) (w : World) (hs : s.size ≤ maxLen) (hi : (Lit.int .i64 i).wf = true) (hc : (Lit.int .u8 c).wf = true) :
    Calls Try.prog 4 #[.string s, .int .i64 i, .int .u8 c] w fun e w' => e = .returned (.bool true) ∧ Below w.heap.size w w' := by
  unfold maxLen at hs
  by_cases h : s.size ≤ 1048576
  · by_cases h0 : i < 0
    · go_enter Try.func4, Try.ntmps4
      go_wp2_with (go_at_call 8; refine (bytes1_small _ _ _ _ h).mono ?_; rintro e w0 ⟨rfl, rfl⟩)
      go_ret
      exact ⟨rfl, Below.refl _ _⟩
    · by_cases h1 : (s.size : Int) < i
      · have h2 : 0 ≤ i := by omega
        clear h0
        go_enter Try.func4, Try.ntmps4
        go_wp2_with (go_at_call 8; refine (bytes1_small _ _ _ _ h).mono ?_; rintro e w0 ⟨rfl, rfl⟩)
        go_ret
        exact ⟨rfl, Below.refl _ _⟩
      · obtain ⟨k, rfl⟩ := Int.eq_ofNat_of_zero_le (show 0 ≤ i by omega)
        have hb := bounds_u8 hc
        have hcu : c = ((UInt8.ofNat c.toNat).toNat : Int) := by simp; omega
        rw [hcu]
        exact insert_in s k _ w h (by omega)
  · go_enter Try.func4, Try.ntmps4
    go_wp2_with (go_at_call 8; refine (bytes1_large _ _ _ _ (by omega)).mono ?_; rintro e w0 ⟨rfl, rfl⟩)
    go_ret
    exact ⟨rfl, Below.refl _ _⟩
end Go.Proofs.Qxb6628588a
