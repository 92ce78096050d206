import Derived.Test.Qxb6628627aFmtRows
import Derived.Test.Qxb6628627aFmtPlain
import Derived.WalkKit
import Derived.OpenShut
import Derived.WalkSpells
import Derived.WalkLawsBesides
namespace Go.Proofs.Qxb6628627aFmt
open Go.RowKit

theorem ret_pair {k : IntKind} {a b : Int} {v : Value} (h : a = b) : Ending.returned (.tuple #[.int k a, v]) = .returned (.tuple #[.int k b, v]) := by rw [h]

/-- the string's bytes are u's digits, from o on -/
def Digs (t : ByteArray) (o u : Nat) : Prop := t.size = o + Plain.dl u ∧ ∀ j (hj : o + j < t.size), (t[o + j].toNat) = 48 + Plain.dv u j

set_option maxHeartbeats 400000 in
theorem parse_pos (t : ByteArray) (u : Nat) (w : World) (h : Digs t 0 u) (hu : u ≤ 9223372036854775807) :
    Calls Tryf.prog 8 #[.string t] w fun e w' => e = .returned (.tuple #[.int .i64 u, .bool true]) ∧ w' = w := by
  obtain ⟨hs, hd⟩ := h
  have hp := Plain.dl_pos u
  have hl := Plain.dl_le u (by omega)
  have hs1 : 1 ≤ t.size := by omega
  have hs2 : t.size ≤ 19 := by omega
  have h0 : t[0].toNat = 48 + Plain.dv u 0 := by have := hd 0 (by omega); simpa using this
  have hv := Plain.dv_lt u 0
  have hv1 := Plain.dv_first u
  have t1 : ((t.size : Int) == 0) = false := beq_eq_false_iff_ne.2 (by omega)
  have t2 : ((t[0].toNat : Int) == 45) = false := beq_eq_false_iff_ne.2 (by omega)
  have HS : Hid _ := hs
  have HD : Hid _ := hd
  have key : Hid (∀ k, (hk : k < t.size) → (48 : Int) ≤ (t[k].toNat : Int) ∧ (t[k].toNat : Int) ≤ 57 ∧ (Plain.pre u (k + 1) : Int) = (Plain.pre u k : Int) * 10 + ((t[k].toNat : Int) - 48) ∧ (Plain.pre u (k + 1) : Int) ≤ (u : Int)) := by
    intro k hk
    have a1 := hd k (by omega)
    have a2 := Plain.dv_lt u k
    have a3 := Plain.pre_succ u k (by omega)
    have a4 := Plain.pre_le u (k + 1)
    simp only [Nat.zero_add] at a1
    omega
  by_cases hz : Plain.dv u 0 = 0
  · have hone : t.size = 1 := by
      by_cases h1 : 1 < Plain.dl u
      · exact absurd hz (hv1 h1)
      · omega
    have t3 : ((t[0].toNat : Int) == 48) = true := beq_iff_eq.2 (by omega)
    have t4 : ((t.size : Int) != 1) = false := by rw [hone]; rfl
    clear hs hd h0 hv1 hp hl hv hz hone HD
    go_enter Tryf.func8, Tryf.ntmps8
    go_wp2
    go_loop [5, 7] (fun i m => ∃ k : Nat, k ≤ t.size ∧ i = .int .i64 k ∧ m = .int .u64 (Plain.pre u k : Nat)) (fun i _ => t.size - (intOf i).toNat)
    case atStart => exact ⟨0, by omega, rfl, by rw [Plain.pre_zero]; rfl⟩
    case round =>
      obtain ⟨k, hk, rfl, rfl⟩ := hrel
      by_cases hlt : k < t.size
      · obtain ⟨k1, k2, k3, k4⟩ := key.out k hlt
        have K3 : Hid _ := k3
        have k5 : (Plain.pre u k : Int) * 10 + ((t[k].toNat : Int) - 48) ≤ 9223372036854775807 := by omega
        clear k3 k4
        generalize Plain.pre u k = q at *
        go_wp2
        go_round
        case rel => exact ⟨k + 1, by omega, by go_num, by rw [K3.out]⟩
        case measure => simp [intOf]; omega
      · have hke : k = t.size := by omega
        subst hke
        have hf : Plain.pre u t.size = u := by have := HS.out; rw [this, Nat.zero_add, Plain.pre_full]
        rw [hf]
        clear hf
        go_wp2
        go_ret2
        exact ⟨rfl, rfl⟩
  · have t3 : ((t[0].toNat : Int) == 48) = false := beq_eq_false_iff_ne.2 (by omega)
    clear hs hd h0 hv1 hp hl hv hz HD
    go_enter Tryf.func8, Tryf.ntmps8
    go_wp2
    go_loop [5, 7] (fun i m => ∃ k : Nat, k ≤ t.size ∧ i = .int .i64 k ∧ m = .int .u64 (Plain.pre u k : Nat)) (fun i _ => t.size - (intOf i).toNat)
    case atStart => exact ⟨0, by omega, rfl, by rw [Plain.pre_zero]; rfl⟩
    case round =>
      obtain ⟨k, hk, rfl, rfl⟩ := hrel
      by_cases hlt : k < t.size
      · obtain ⟨k1, k2, k3, k4⟩ := key.out k hlt
        have K3 : Hid _ := k3
        have k5 : (Plain.pre u k : Int) * 10 + ((t[k].toNat : Int) - 48) ≤ 9223372036854775807 := by omega
        clear k3 k4
        generalize Plain.pre u k = q at *
        go_wp2
        go_round
        case rel => exact ⟨k + 1, by omega, by go_num, by rw [K3.out]⟩
        case measure => simp [intOf]; omega
      · have hke : k = t.size := by omega
        subst hke
        have hf : Plain.pre u t.size = u := by have := HS.out; rw [this, Nat.zero_add, Plain.pre_full]
        rw [hf]
        clear hf
        go_wp2
        go_ret2
        exact ⟨rfl, rfl⟩

theorem dv_one (u : Nat) (h : 1 ≤ u) : Plain.dv u 0 ≠ 0 := by
  by_cases h1 : 1 < Plain.dl u
  · exact Plain.dv_first u h1
  · have hp := Plain.dl_pos u
    have e : Plain.dl u = 1 := by omega
    have hl := Plain.dl_lt u
    rw [e] at hl
    unfold Plain.dv
    rw [e]
    simp
    omega

set_option maxHeartbeats 400000 in
theorem parse_neg (t : ByteArray) (u : Nat) (w : World) (h : Digs t 1 u) (hs0 : 0 < t.size) (h45 : t[0].toNat = 45) (hu1 : 1 ≤ u) (hu : u ≤ 9223372036854775808) :
    Calls Tryf.prog 8 #[.string t] w fun e w' => e = .returned (.tuple #[.int .i64 (-(u : Int)), .bool true]) ∧ w' = w := by
  obtain ⟨hs, hd⟩ := h
  have hp := Plain.dl_pos u
  have hl := Plain.dl_le u (by omega)
  have hs1 : 2 ≤ t.size := by omega
  have hs2 : t.size ≤ 20 := by omega
  have h1 : t[1].toNat = 48 + Plain.dv u 0 := hd 0 (by omega)
  have hv := Plain.dv_lt u 0
  have hv1 := dv_one u hu1
  have t1 : ((t.size : Int) == 0) = false := beq_eq_false_iff_ne.2 (by omega)
  have t2 : ((t[0].toNat : Int) == 45) = true := beq_iff_eq.2 (by omega)
  have t3 : ((t.size : Int) == 1) = false := beq_eq_false_iff_ne.2 (by omega)
  have t4 : ((t[1].toNat : Int) == 48) = false := beq_eq_false_iff_ne.2 (by omega)
  have HS : Hid _ := hs
  have key : Hid (∀ k, (hk : k < t.size) → 1 ≤ k → (48 : Int) ≤ (t[k].toNat : Int) ∧ (t[k].toNat : Int) ≤ 57 ∧ (Plain.pre u (k + 1 - 1) : Int) = (Plain.pre u (k - 1) : Int) * 10 + ((t[k].toNat : Int) - 48) ∧ (Plain.pre u (k + 1 - 1) : Int) ≤ (u : Int)) := by
    intro k hk hk1
    obtain ⟨j, rfl⟩ : ∃ j, k = 1 + j := ⟨k - 1, by omega⟩
    have a1 := hd j hk
    have a2 := Plain.dv_lt u j
    have a3 := Plain.pre_succ u j (by omega)
    have a4 := Plain.pre_le u (j + 1)
    have e1 : 1 + j + 1 - 1 = j + 1 := by omega
    have e2 : 1 + j - 1 = j := by omega
    rw [e1, e2]
    omega
  have hU : (u : Int) ≤ 9223372036854775808 := by omega
  clear hs hd h1 hv1 hp hl hv h45
  go_enter Tryf.func8, Tryf.ntmps8
  go_wp2
  go_loop [5, 7] (fun i m => ∃ k : Nat, 1 ≤ k ∧ k ≤ t.size ∧ i = .int .i64 k ∧ m = .int .u64 (Plain.pre u (k - 1) : Nat)) (fun i _ => t.size - (intOf i).toNat)
  case atStart => exact ⟨1, by omega, by omega, rfl, by rw [Plain.pre_zero]; rfl⟩
  case round =>
    obtain ⟨k, hk0, hk, rfl, rfl⟩ := hrel
    by_cases hlt : k < t.size
    · obtain ⟨k1, k2, k3, k4⟩ := key.out k hlt hk0
      have K3 : Hid _ := k3
      have k5 : (Plain.pre u (k - 1) : Int) * 10 + ((t[k].toNat : Int) - 48) ≤ 9223372036854775808 := by omega
      clear k3 k4
      generalize Plain.pre u (k - 1) = q at *
      go_wp2
      go_round
      case rel => exact ⟨k + 1, by omega, by omega, by go_num, by rw [K3.out]⟩
      case measure => simp [intOf]; omega
    · have hke : k = t.size := by omega
      subst hke
      have hf : Plain.pre u (t.size - 1) = u := by have := HS.out; rw [this, Nat.add_sub_cancel_left, Plain.pre_full]
      rw [hf]
      clear hf
      by_cases hm : u = 9223372036854775808
      · have tm : ((u : Int) == 9223372036854775808) = true := beq_iff_eq.2 (by omega)
        have HM : Hid _ := hm
        clear hm
        go_wp2
        go_ret2
        exact ⟨ret_pair (by have := HM.out; omega), rfl⟩
      · have tm : ((u : Int) == 9223372036854775808) = false := beq_eq_false_iff_ne.2 (by omega)
        have hm' : (u : Int) < 9223372036854775808 := by omega
        clear hm
        go_wp2
        go_ret2
        exact ⟨rfl, rfl⟩

/-- the canonical decimal reads back -/
theorem parse_itoa (t : ByteArray) (v : Int) (w : World) (ht : t.data.toList = Lib.itoa v) (hv : (Lit.int .i64 v).wf = true) :
    Calls Tryf.prog 8 #[.string t] w fun e w' => e = .returned (.tuple #[.int .i64 v, .bool true]) ∧ w' = w := by
  have hb := bounds_i64 hv
  by_cases h0 : v < 0
  · obtain ⟨u, hu⟩ : ∃ u : Nat, v = -(u : Int) := ⟨v.natAbs, by omega⟩
    have e : Lib.itoa v = 45 :: Lib.decDigits u := by
      unfold Lib.itoa
      rw [if_pos h0]
      have : v.natAbs = u := by omega
      rw [this]
    rw [e] at ht
    have hsz : t.size = 1 + Plain.dl u := by
      have : t.data.toList.length = t.size := by simp
      rw [← this, ht]
      simp [Plain.dl]; omega
    subst hu
    refine parse_neg t u w ⟨hsz, fun j hj => ?_⟩ (by omega) ?_ (by omega) (by omega)
    · rw [← Plain.dd_dv u j (by omega)]
      show (t.data.toList[1 + j]'(by simpa using hj)).toNat = _
      simp only [ht, Nat.add_comm 1 j, List.getElem_cons_succ]
      rfl
    · show (t.data.toList[0]'(by simp; omega)).toNat = _
      simp only [ht, List.getElem_cons_zero]
      rfl
  · obtain ⟨u, rfl⟩ := Int.eq_ofNat_of_zero_le (show 0 ≤ v by omega)
    have e : Lib.itoa (u : Int) = Lib.decDigits u := by
      unfold Lib.itoa
      rw [if_neg h0]
      simp
    rw [e] at ht
    have hsz : t.size = 0 + Plain.dl u := by
      have : t.data.toList.length = t.size := by simp
      rw [← this, ht]
      simp [Plain.dl]
    refine parse_pos t u w ⟨hsz, fun j hj => ?_⟩ (by omega)
    rw [← Plain.dd_dv u j (by omega)]
    show (t.data.toList[0 + j]'(by simpa using hj)).toNat = _
    simp only [ht, Nat.zero_add]
    rfl
end Go.Proofs.Qxb6628627aFmt
