import Derived.Test.Qxb6628588aRows
import Derived.Test.Qxb6628588aPlain
import Derived.WalkKit
import Derived.WalkSpells
import Derived.WalkLawsBesides
namespace Go.Proofs.Qxb6628588a
open Go.RowKit

theorem ret_int {k : IntKind} {a b : Int} (h : a = b) : Ending.returned (.int k a) = .returned (.int k b) := by rw [h]

/-- how many digits the string starts with -/
def cdS (s : ByteArray) : Nat := Plain.cd s.data.toList
theorem cdS_le (s : ByteArray) : cdS s ≤ s.size := by have := Plain.cd_le s.data.toList; simpa [cdS] using this
theorem isD_no {c : UInt8} (h : (c.toNat : Int) < 48 ∨ (57 : Int) < (c.toNat : Int)) : Plain.isD c = false := by unfold Plain.isD; simp; omega
theorem isD_yes {c : UInt8} (h1 : (48 : Int) ≤ (c.toNat : Int)) (h2 : (c.toNat : Int) ≤ 57) : Plain.isD c = true := by unfold Plain.isD; simp; omega
theorem isD_bd {c : UInt8} (h : Plain.isD c = true) : (48 : Int) ≤ (c.toNat : Int) ∧ (c.toNat : Int) ≤ 57 := by unfold Plain.isD at h; simp at h; omega
theorem isD_out {c : UInt8} (h : Plain.isD c = false) : (c.toNat : Int) < 48 ∨ (57 : Int) < (c.toNat : Int) := by unfold Plain.isD at h; simp at h; omega
theorem cdS_of (s : ByteArray) (k : Nat) (hk : k ≤ s.size) (h : ∀ j, (hj : j < k) → Plain.isD (s[j]'(by omega)) = true) (hn : (hlt : k < s.size) → Plain.isD s[k] = false) : cdS s = k :=
  Plain.cd_of _ k (by simpa using hk) (fun j hj => h j hj) (fun hlt => hn (by simpa using hlt))
theorem cdS_digit (s : ByteArray) (j : Nat) (hj : j < cdS s) : Plain.isD (s[j]'(Nat.lt_of_lt_of_le hj (cdS_le s))) = true := Plain.cd_digit _ j hj
theorem cdS_stop (s : ByteArray) (h : cdS s < s.size) : Plain.isD s[cdS s] = false := Plain.cd_stop s.data.toList (by simpa [cdS] using h)

set_option maxHeartbeats 400000 in
theorem count_any (s : ByteArray) (w : World) (hs : s.size ≤ maxLen) :
    Calls Try.prog 6 #[.string s] w fun e w' => e = .returned (.int .i64 (cdS s : Nat)) ∧ w' = w := by
  unfold maxLen at hs
  go_enter Try.func6, Try.ntmps6
  go_wp2
  go_loop [3] (fun i => ∃ k : Nat, k ≤ s.size ∧ i = .int .i64 k ∧ ∀ j, (hj : j < k) → (hk : k ≤ s.size) → Plain.isD (s[j]'(by omega)) = true) (fun i => s.size - (intOf i).toNat)
  case atStart => exact ⟨0, Nat.zero_le _, rfl, fun j hj => by omega⟩
  case round =>
    obtain ⟨k, hk, rfl, hd⟩ := hrel
    have HD : Hid _ := hd
    clear hd
    by_cases hlt : k < s.size
    · go_wp2
      · go_ret
        exact ⟨ret_int (by rw [cdS_of s k hk (fun j hj => HD.out j hj hk) (fun _ => isD_no (by omega))]), rfl⟩
      · go_round
        case rel =>
          have hy : Plain.isD s[k] = true := isD_yes (by omega) (by omega)
          exact ⟨k + 1, by omega, by go_num, fun j hj _ => (by
            by_cases e : j = k
            · subst e; exact hy
            · exact HD.out j (by omega) hk)⟩
        case measure => simp [intOf]; omega
      · go_ret
        exact ⟨ret_int (by rw [cdS_of s k hk (fun j hj => HD.out j hj hk) (fun _ => isD_no (by omega))]), rfl⟩
    · have : k = s.size := by omega
      subst this
      go_wp2
      go_ret
      exact ⟨ret_int (by rw [cdS_of s s.size (Nat.le_refl _) (fun j hj => HD.out j hj (Nat.le_refl _)) (fun h => by omega)]), rfl⟩

theorem digit_yes (c : Int) (w : World) (h1 : 48 ≤ c) (h2 : c ≤ 57) :
    Calls Try.prog 9 #[.int .u8 c] w fun e w' => e = .returned (.bool true) ∧ w' = w := by
  go_enter Try.func9, Try.ntmps9
  go_wp2
  go_ret
  exact ⟨rfl, rfl⟩
theorem digit_no (c : Int) (w : World) (h : c < 48 ∨ 57 < c) :
    Calls Try.prog 9 #[.int .u8 c] w fun e w' => e = .returned (.bool false) ∧ w' = w := by
  by_cases h1 : c < 48
  · go_enter Try.func9, Try.ntmps9
    go_wp2
    go_ret
    exact ⟨rfl, rfl⟩
  · have h2 : 48 ≤ c := by omega
    have h3 : decide (c ≤ 57) = false := by simp; omega
    clear h h1
    go_enter Try.func9, Try.ntmps9
    go_wp2
    go_ret
    exact ⟨rfl, rfl⟩

set_option maxHeartbeats 400000 in
theorem prefix_any (s : ByteArray) (n : Nat) (hn : n = cdS s) (w : World) (hs : s.size ≤ maxLen) :
    Calls Try.prog 7 #[.string s, .int .i64 (n : Nat)] w fun e w' => e = .returned (.bool true) ∧ w' = w := by
  unfold maxLen at hs
  have hle : n ≤ s.size := by rw [hn]; exact cdS_le s
  have hdig : ∀ j, (hj : j < n) → Plain.isD (s[j]'(Nat.lt_of_lt_of_le hj hle)) = true := by subst hn; exact cdS_digit s
  have hstop : (h : n < s.size) → Plain.isD s[n] = false := by subst hn; exact cdS_stop s
  have HD : Hid _ := hdig
  have HS : Hid _ := hstop
  clear hn hdig hstop
  have p1 : decide ((n : Int) < 0) = false := by simp
  have p2 : decide (s.size < n) = false := by simp; omega
  go_enter Try.func7, Try.ntmps7
  go_wp2_with fail
  go_loop [5] (fun i => ∃ k : Nat, k ≤ n ∧ i = .int .i64 k) (fun i => n - (intOf i).toNat)
  case atStart => exact ⟨0, Nat.zero_le _, rfl⟩
  case round =>
    obtain ⟨k, hk, rfl⟩ := hrel
    by_cases hlt : k < n
    · have hks : k < s.size := by omega
      have hb := isD_bd (HD.out k hlt)
      obtain ⟨hb1, hb2⟩ := hb
      go_wp2_with (go_at_call 9; refine (digit_yes _ _ hb1 hb2).mono ?_; rintro e w' ⟨rfl, rfl⟩)
      go_round
      case rel => exact ⟨k + 1, by omega, by go_num⟩
      case measure => simp [intOf]; omega
    · have hkn : k = n := by omega
      subst hkn
      by_cases hks : k < s.size
      · have hb := isD_out (HS.out hks)
        have HB : Hid _ := hb
        clear hb
        go_wp2_with (go_at_call 9; refine (digit_no _ _ HB.out).mono ?_; rintro e w' ⟨rfl, rfl⟩)
        go_ret
        exact ⟨rfl, rfl⟩
      · have hq : decide (k < s.size) = false := by simp; omega
        go_wp2_with fail
        go_ret
        exact ⟨rfl, rfl⟩
end Go.Proofs.Qxb6628588a
