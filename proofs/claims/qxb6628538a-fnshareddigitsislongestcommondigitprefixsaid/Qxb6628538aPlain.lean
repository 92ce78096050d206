namespace Go.Proofs.Qxb6628538a.Plain

/-- the i-th 4-bit digit of the bytes x -/
def dig (x : Nat → Nat) (i : Nat) : Nat := if i % 2 = 0 then x (i / 2) / 16 else x (i / 2) % 16

/-- how many of the first 'n' values from 'i' on agree -/
def cnt (f g : Nat → Nat) : Nat → Nat → Nat
  | 0, i => i
  | n + 1, i => if f i = g i then cnt f g n (i + 1) else i

/-- how long the longest common head is, at most 40 -/
def sh (f g : Nat → Nat) : Nat := cnt f g 40 0

def Lcp (f g : Nat → Nat) (r : Nat) : Prop := r ≤ 40 ∧ (∀ i, i < r → f i = g i) ∧ (r < 40 → f r ≠ g r)

theorem cnt_spec (f g : Nat → Nat) (n i : Nat) : i ≤ cnt f g n i ∧ cnt f g n i ≤ i + n ∧ (∀ j, i ≤ j → j < cnt f g n i → f j = g j) ∧ (cnt f g n i < i + n → f (cnt f g n i) ≠ g (cnt f g n i)) := by
  induction n generalizing i with
  | zero => simp only [cnt]; exact ⟨by omega, by omega, fun j h1 h2 => by omega, fun h => by omega⟩
  | succ n ih =>
    unfold cnt
    by_cases h : f i = g i
    · rw [if_pos h]
      obtain ⟨h1, h2, h3, h4⟩ := ih (i + 1)
      refine ⟨by omega, by omega, fun j hj1 hj2 => ?_, fun hlt => h4 (by omega)⟩
      by_cases e : j = i
      · rw [e]; exact h
      · exact h3 j (by omega) hj2
    · rw [if_neg h]
      exact ⟨by omega, by omega, fun j h1 h2 => by omega, fun _ => h⟩

theorem sh_lcp (f g : Nat → Nat) : Lcp f g (sh f g) := by
  obtain ⟨h1, h2, h3, h4⟩ := cnt_spec f g 40 0
  exact ⟨by unfold sh; omega, fun i hi => h3 i (Nat.zero_le _) hi, fun h => h4 (by unfold sh at h; omega)⟩

theorem lcp_uniq {f g : Nat → Nat} {r s : Nat} (hr : Lcp f g r) (hs : Lcp f g s) : r = s := by
  obtain ⟨a1, a2, a3⟩ := hr
  obtain ⟨b1, b2, b3⟩ := hs
  rcases Nat.lt_trichotomy r s with h | h | h
  · exact absurd (b2 r h) (a3 (by omega))
  · exact h
  · exact absurd (a2 s h) (b3 (by omega))

theorem lcp_sh {f g : Nat → Nat} {r : Nat} (hr : Lcp f g r) : sh f g = r := lcp_uniq (sh_lcp f g) hr

theorem sh_le (f g : Nat → Nat) : sh f g ≤ 40 := (sh_lcp f g).1

theorem sh_self (f : Nat → Nat) : sh f f = 40 := lcp_sh ⟨by omega, fun _ _ => rfl, fun h => by omega⟩

theorem sh_symm (f g : Nat → Nat) : sh g f = sh f g := by
  obtain ⟨a1, a2, a3⟩ := sh_lcp f g
  exact lcp_sh ⟨a1, fun i hi => (a2 i hi).symm, fun h e => a3 h e.symm⟩

theorem sh_ultra (f g h : Nat → Nat) : min (sh f g) (sh g h) ≤ sh f h ∧ (sh f g ≠ sh g h → sh f h = min (sh f g) (sh g h)) := by
  obtain ⟨a1, a2, a3⟩ := sh_lcp f g
  obtain ⟨b1, b2, b3⟩ := sh_lcp g h
  obtain ⟨c1, c2, c3⟩ := sh_lcp f h
  generalize sh f g = a at *
  generalize sh g h = b at *
  generalize sh f h = c at *
  have key : min a b ≤ c := by
    by_cases hc : c < min a b
    · exact absurd ((a2 c (by omega)).trans (b2 c (by omega))) (c3 (by omega))
    · omega
  refine ⟨key, fun hne => ?_⟩
  by_cases hc : min a b < c
  · exfalso
    by_cases hab : a < b
    · have e := c2 a (by omega)
      have e2 := b2 a hab
      exact a3 (by omega) (e.trans e2.symm)
    · have e := c2 b (by omega)
      have e2 := a2 b (by omega)
      exact b3 (by omega) (e2.symm.trans e)
  · omega

theorem xor_inj (a b c : Nat) : a ^^^ c = b ^^^ c ↔ a = b := by
  constructor
  · intro h
    have := congrArg (· ^^^ c) h
    simpa [Nat.xor_assoc] using this
  · intro h; rw [h]

theorem sh_xor {f g f' g' k : Nat → Nat} (hf : ∀ i, i < 40 → f' i = f i ^^^ k i) (hg : ∀ i, i < 40 → g' i = g i ^^^ k i) : sh f' g' = sh f g := by
  obtain ⟨a1, a2, a3⟩ := sh_lcp f g
  refine lcp_sh ⟨a1, fun i hi => ?_, fun h e => ?_⟩
  · rw [hf i (by omega), hg i (by omega), a2 i hi]
  · rw [hf _ h, hg _ h, xor_inj] at e
    exact a3 h e

theorem dig_xor (x k : Nat → Nat) (i : Nat) : dig (fun j => x j ^^^ k j) i = dig x i ^^^ dig k i := by
  unfold dig
  by_cases h : i % 2 = 0
  · simp only [h, if_true]
    have := Nat.shiftRight_xor_distrib (a := x (i / 2)) (b := k (i / 2)) (i := 4)
    simpa [Nat.shiftRight_eq_div_pow] using this
  · simp only [h, if_false]
    exact Nat.xor_mod_two_pow (a := x (i / 2)) (b := k (i / 2)) (n := 4)

theorem dig_lt (x : Nat → Nat) (hx : ∀ i, x i < 256) (i : Nat) : dig x i < 16 := by
  unfold dig; have := hx (i / 2); split <;> omega

theorem dig_congr {x y : Nat → Nat} {i : Nat} (h : x (i / 2) = y (i / 2)) : dig x i = dig y i := by
  unfold dig; rw [h]

theorem and240 (a : Nat) (h : a < 256) : a &&& 240 = a / 16 * 16 := by
  have : ∀ a : Fin 256, a.val &&& 240 = a.val / 16 * 16 := by decide +kernel
  exact this ⟨a, h⟩

theorem xor_eq_zero {a b : Nat} : a ^^^ b = 0 ↔ a = b := by
  have h := xor_inj a b b
  rw [Nat.xor_self] at h
  exact h

theorem xor_hi {a b : Nat} (ha : a < 256) (hb : b < 256) : (a ^^^ b) &&& 240 = 0 ↔ a / 16 = b / 16 := by
  rw [Nat.and_xor_distrib_right, and240 a ha, and240 b hb, xor_eq_zero]
  omega

/-- the bytes agree up to k; at k they part: in the high half -/
theorem lcp_hi {x y : Nat → Nat} {k : Nat} (hk : k < 20) (h : ∀ j, j < k → x j = y j) (hd : x k / 16 ≠ y k / 16) : Lcp (dig x) (dig y) (2 * k) := by
  refine ⟨by omega, fun i hi => dig_congr (h _ (by omega)), fun _ => ?_⟩
  unfold dig
  rw [if_pos (by omega), if_pos (by omega), show 2 * k / 2 = k by omega]
  exact hd
theorem lcp_lo {x y : Nat → Nat} {k : Nat} (hk : k < 20) (h : ∀ j, j < k → x j = y j) (he : x k / 16 = y k / 16) (hd : x k ≠ y k) : Lcp (dig x) (dig y) (2 * k + 1) := by
  refine ⟨by omega, fun i hi => ?_, fun _ => ?_⟩
  · by_cases e : i = 2 * k
    · subst e
      unfold dig
      rw [if_pos (by omega), if_pos (by omega), show 2 * k / 2 = k by omega]
      exact he
    · exact dig_congr (h _ (by omega))
  · unfold dig
    rw [if_neg (by omega), if_neg (by omega), show (2 * k + 1) / 2 = k by omega]
    omega
theorem lcp_all {x y : Nat → Nat} (h : ∀ j, j < 20 → x j = y j) : Lcp (dig x) (dig y) 40 :=
  ⟨by omega, fun i hi => dig_congr (h _ (by omega)), fun h => by omega⟩

end Go.Proofs.Qxb6628538a.Plain
