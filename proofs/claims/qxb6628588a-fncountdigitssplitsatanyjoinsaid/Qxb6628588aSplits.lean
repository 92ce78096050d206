import Derived.Test.Qxb6628588aWalk
namespace Go.Proofs.Qxb6628588a
open Go.RowKit

set_option maxHeartbeats 400000 in
theorem bytes_small (a b : ByteArray) (w : World) (h : a.size + b.size ≤ 1048576) :
    Calls Try.prog 5 #[.string a, .string b] w fun e w' => e = .returned (.bool true) ∧ w' = w := by
  go_enter Try.func5, Try.ntmps5
  go_wp2
  go_ret
  exact ⟨rfl, rfl⟩
set_option maxHeartbeats 400000 in
theorem bytes_large (a b : ByteArray) (w : World) (ha : a.size ≤ maxLen) (hb : b.size ≤ maxLen) (h : 1048576 < a.size + b.size) :
    Calls Try.prog 5 #[.string a, .string b] w fun e w' => e = .returned (.bool false) ∧ w' = w := by
  unfold maxLen at ha hb
  go_enter Try.func5, Try.ntmps5
  go_wp2
  all_goals go_ret
  all_goals exact ⟨rfl, rfl⟩

theorem cdS_append (a b : ByteArray) : cdS (a ++ b) = if cdS a < a.size then cdS a else a.size + cdS b := by
  have h := Plain.cd_append a.data.toList b.data.toList
  have e : (a ++ b).data.toList = a.data.toList ++ b.data.toList := by simp [ByteArray.data_append]
  unfold cdS
  rw [e, h]
  simp

set_option maxHeartbeats 400000 in
theorem splits (a b : ByteArray) (w : World) (ha : a.size ≤ maxLen) (hb : b.size ≤ maxLen) :
    Calls Try.prog 3 #[.string a, .string b] w fun e w' => e = .returned (.bool true) ∧ Grown w w' := by
  by_cases h : a.size + b.size ≤ 1048576
  · by_cases h1 : 524288 < a.size
    · go_enter Try.func3, Try.ntmps3
      go_wp2_with (go_at_call 5; refine (bytes_small _ _ _ h).mono ?_; rintro e w' ⟨rfl, rfl⟩)
      go_ret
      exact ⟨rfl, Grown.refl _⟩
    · by_cases h2 : 524288 < b.size
      · go_enter Try.func3, Try.ntmps3
        go_wp2_with (go_at_call 5; refine (bytes_small _ _ _ h).mono ?_; rintro e w' ⟨rfl, rfl⟩)
        go_ret
        exact ⟨rfl, Grown.refl _⟩
      · go_enter Try.func3, Try.ntmps3
        go_wp2_with (go_at_call 5; refine (bytes_small _ _ _ h).mono ?_; rintro e w' ⟨rfl, rfl⟩)
        have hab : (a ++ b).size ≤ maxLen := by unfold maxLen; simp; omega
        have hcut : Hid _ := cdS_append a b
        refine (count_any (a ++ b) _ hab).mono ?_
        rintro e w' ⟨rfl, rfl⟩
        go_wp2_with fail
        refine (count_any a _ ha).mono ?_
        rintro e w' ⟨rfl, rfl⟩
        go_wp2_with fail
        refine (count_any b _ hb).mono ?_
        rintro e w' ⟨rfl, rfl⟩
        have la := cdS_le a
        have lb := cdS_le b
        have lab := cdS_le (a ++ b)
        generalize hn : cdS (a ++ b) = n at *
        generalize cdS a = p at *
        generalize cdS b = q at *
        have HN : Hid (cdS (a ++ b) = n) := hn
        clear hn
        by_cases hp : p < a.size
        · have e1 : p = n := by have := hcut.out; rw [if_pos hp] at this; exact this.symm
          clear hcut
          subst e1
          go_wp2_with fail
          refine (prefix_any (a ++ b) p HN.out.symm _ hab).mono ?_
          rintro e w' ⟨rfl, rfl⟩
          go_wp2_with fail
          go_ret
          exact ⟨rfl, Grown.refl _⟩
        · have e1 : (a.size : Int) + (q : Int) = (n : Int) := by have := hcut.out; rw [if_neg hp] at this; omega
          clear hcut
          go_wp2_with fail
          refine (prefix_any (a ++ b) n HN.out.symm _ hab).mono ?_
          rintro e w' ⟨rfl, rfl⟩
          go_wp2_with fail
          go_ret
          exact ⟨rfl, Grown.refl _⟩
  · go_enter Try.func3, Try.ntmps3
    go_wp2_with (go_at_call 5; refine (bytes_large _ _ _ ha hb (by omega)).mono ?_; rintro e w' ⟨rfl, rfl⟩)
    go_ret
    exact ⟨rfl, Grown.refl _⟩
end Go.Proofs.Qxb6628588a
