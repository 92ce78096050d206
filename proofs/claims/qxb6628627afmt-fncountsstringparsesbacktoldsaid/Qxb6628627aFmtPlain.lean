import Derived.Lib.ItoaNum
namespace Go.Proofs.Qxb6628627aFmt.Plain
open Go

/-- how many decimal digits -/
def dl (u : Nat) : Nat := (Lib.decDigits u).length

theorem dd_small {u : Nat} (h : u < 10) : Lib.decDigits u = [UInt8.ofNat (48 + u)] := by rw [Lib.decDigits]; simp [h]
theorem dd_big {u : Nat} (h : ¬ u < 10) : Lib.decDigits u = Lib.decDigits (u / 10) ++ [UInt8.ofNat (48 + u % 10)] := by rw [Lib.decDigits]; simp [h]
theorem dl_small {u : Nat} (h : u < 10) : dl u = 1 := by unfold dl; rw [dd_small h]; rfl
theorem dl_big {u : Nat} (h : ¬ u < 10) : dl u = dl (u / 10) + 1 := by unfold dl; rw [dd_big h]; simp

theorem dl_pos (u : Nat) : 0 < dl u := by
  by_cases h : u < 10
  · rw [dl_small h]; omega
  · rw [dl_big h]; omega

theorem dd_facts (m : Nat) : ∀ u, u ≤ m → u < 10 ^ dl u ∧ (1 < dl u → 10 ^ (dl u - 1) ≤ u) ∧ ∀ j (hj : j < dl u), ((Lib.decDigits u)[j]'hj).toNat = 48 + u / 10 ^ (dl u - 1 - j) % 10 := by
  induction m with
  | zero =>
    intro u hu
    have : u = 0 := by omega
    subst this
    refine ⟨by rw [dl_small (by omega)]; omega, fun h => by rw [dl_small (by omega)] at h; omega, fun j hj => ?_⟩
    have hj1 : j < 1 := by rw [dl_small (by omega)] at hj; exact hj
    have : j = 0 := by omega
    subst this
    simp [dd_small (show 0 < 10 by omega)]
  | succ m ih =>
    intro u hu
    by_cases h : u < 10
    · refine ⟨by rw [dl_small h]; omega, fun h' => by rw [dl_small h] at h'; omega, fun j hj => ?_⟩
      have hj1 : j < 1 := by rw [dl_small h] at hj; exact hj
      have : j = 0 := by omega
      subst this
      simp only [dd_small h, dl_small h, List.getElem_cons_zero]
      simp
      omega
    · obtain ⟨i1, i2, i3⟩ := ih (u / 10) (by omega)
      have hl := dl_big h
      have hp := dl_pos (u / 10)
      refine ⟨?_, fun _ => ?_, fun j hj => ?_⟩
      · rw [hl, Nat.pow_succ]; omega
      · rw [hl, Nat.add_sub_cancel]
        by_cases h1 : 1 < dl (u / 10)
        · have := i2 h1
          obtain ⟨n, hn⟩ : ∃ n, dl (u / 10) = n + 1 := ⟨dl (u / 10) - 1, by omega⟩
          rw [hn] at this ⊢
          rw [Nat.add_sub_cancel] at this
          rw [Nat.pow_succ]; omega
        · have : dl (u / 10) = 1 := by omega
          rw [this]; omega
      · by_cases hj1 : j < dl (u / 10)
        · have e := i3 j hj1
          simp only [dd_big h]
          rw [List.getElem_append_left (by exact hj1), e, hl]
          have : dl (u / 10) + 1 - 1 - j = (dl (u / 10) - 1 - j) + 1 := by omega
          rw [this, Nat.pow_succ, Nat.mul_comm, Nat.div_div_eq_div_mul]
        · have hje : j = dl (u / 10) := by omega
          simp only [dd_big h]
          rw [List.getElem_append_right (by unfold dl at hje; omega), hl]
          have : dl (u / 10) + 1 - 1 - j = 0 := by omega
          rw [this]
          simp
          omega

theorem dl_lt (u : Nat) : u < 10 ^ dl u := (dd_facts u u (Nat.le_refl _)).1
theorem dl_ge (u : Nat) (h : 1 < dl u) : 10 ^ (dl u - 1) ≤ u := (dd_facts u u (Nat.le_refl _)).2.1 h
theorem dd_get (u j : Nat) (hj : j < dl u) : ((Lib.decDigits u)[j]'hj).toNat = 48 + u / 10 ^ (dl u - 1 - j) % 10 := (dd_facts u u (Nat.le_refl _)).2.2 j hj

theorem dl_le (u : Nat) (h : u ≤ 9223372036854775808) : dl u ≤ 19 := by
  by_cases h1 : 20 ≤ dl u
  · have := dl_ge u (by omega)
    have h2 : 10 ^ 19 ≤ 10 ^ (dl u - 1) := Nat.pow_le_pow_right (by omega) (by omega)
    have h3 : (10 : Nat) ^ 19 = 10000000000000000000 := by rfl
    omega
  · omega

/-- the value of the first j digits -/
def pre (u j : Nat) : Nat := u / 10 ^ (dl u - j)
theorem pre_zero (u : Nat) : pre u 0 = 0 := by unfold pre; exact Nat.div_eq_of_lt (dl_lt u)
theorem pre_full (u : Nat) : pre u (dl u) = u := by unfold pre; simp
theorem pre_le (u j : Nat) : pre u j ≤ u := Nat.div_le_self _ _
/-- the j-th digit's value -/
def dv (u j : Nat) : Nat := u / 10 ^ (dl u - 1 - j) % 10
theorem dv_lt (u j : Nat) : dv u j < 10 := Nat.mod_lt _ (by omega)
theorem pre_succ (u j : Nat) (hj : j < dl u) : pre u (j + 1) = pre u j * 10 + dv u j := by
  unfold pre dv
  have e1 : dl u - j = (dl u - 1 - j) + 1 := by omega
  have e2 : dl u - (j + 1) = dl u - 1 - j := by omega
  rw [e1, e2, Nat.pow_succ, ← Nat.div_div_eq_div_mul]
  omega
theorem dd_dv (u j : Nat) (hj : j < dl u) : ((Lib.decDigits u)[j]'hj).toNat = 48 + dv u j := dd_get u j hj
/-- the first digit is no zero, but of zero itself -/
theorem dv_first (u : Nat) (h : 1 < dl u) : dv u 0 ≠ 0 := by
  have h1 := dl_ge u h
  have h2 := dl_lt u
  unfold dv
  rw [Nat.sub_zero]
  obtain ⟨n, hn⟩ : ∃ n, dl u = n + 1 := ⟨dl u - 1, by omega⟩
  rw [hn] at h1 h2 ⊢
  rw [Nat.add_sub_cancel] at h1 ⊢
  rw [Nat.pow_succ] at h2
  have hp : 0 < 10 ^ n := Nat.pow_pos (by omega)
  have a1 : 1 ≤ u / 10 ^ n := (Nat.le_div_iff_mul_le hp).2 (by omega)
  have a2 : u / 10 ^ n < 10 := (Nat.div_lt_iff_lt_mul hp).2 (by omega)
  omega
end Go.Proofs.Qxb6628627aFmt.Plain
