namespace Go.Proofs.Qxb6628588a.Plain

def isD (c : UInt8) : Bool := decide (48 ≤ c.toNat) && decide (c.toNat ≤ 57)

/-- how many digits a list of bytes starts with -/
def cd : List UInt8 → Nat
  | [] => 0
  | c :: l => if isD c then cd l + 1 else 0

theorem cd_le (l : List UInt8) : cd l ≤ l.length := by
  induction l with
  | nil => simp [cd]
  | cons c l ih => simp only [cd]; split <;> simp <;> omega

theorem cd_append (a b : List UInt8) : cd (a ++ b) = if cd a < a.length then cd a else a.length + cd b := by
  induction a with
  | nil => simp [cd]
  | cons c l ih =>
    simp only [List.cons_append, cd, ih]
    by_cases h : isD c
    · simp only [h, if_true, List.length_cons]
      have := cd_le l
      by_cases h2 : cd l < l.length
      · rw [if_pos h2, if_pos (by omega)]
      · rw [if_neg h2, if_neg (by omega)]; omega
    · simp [h]

/-- the first k bytes are digits, and byte k (if there is one) is none -/
theorem cd_of (l : List UInt8) (k : Nat) (hk : k ≤ l.length) (h : ∀ j, (hj : j < k) → isD (l[j]'(by omega)) = true) (hn : (hlt : k < l.length) → isD l[k] = false) : cd l = k := by
  induction l generalizing k with
  | nil => simp at hk; simp [cd, hk]
  | cons c l ih =>
    cases k with
    | zero =>
      have := hn (by simp)
      simp only [List.getElem_cons_zero] at this
      simp [cd, this]
    | succ k =>
      have h0 := h 0 (by omega)
      simp only [List.getElem_cons_zero] at h0
      simp only [cd, h0, if_true]
      congr 1
      refine ih k (by simpa using hk) (fun j hj => ?_) (fun hlt => ?_)
      · have := h (j + 1) (by omega)
        simpa using this
      · have := hn (by simpa using hlt)
        simpa using this

theorem cd_digit (l : List UInt8) (j : Nat) (hj : j < cd l) : isD (l[j]'(Nat.lt_of_lt_of_le hj (cd_le l))) = true := by
  induction l generalizing j with
  | nil => simp [cd] at hj
  | cons c l ih =>
    by_cases h : isD c
    · simp only [cd, h, if_true] at hj
      cases j with
      | zero => simpa using h
      | succ j => simpa using ih j (by omega)
    · simp [cd, h] at hj
theorem cd_stop (l : List UInt8) (h : cd l < l.length) : isD l[cd l] = false := by
  induction l with
  | nil => simp at h
  | cons c l ih =>
    by_cases hc : isD c
    · have e : cd (c :: l) = cd l + 1 := by simp [cd, hc]
      simp only [e]
      simp only [List.getElem_cons_succ]
      exact ih (by rw [e] at h; simpa using h)
    · have e : cd (c :: l) = 0 := by simp [cd, hc]
      simp only [e]
      simpa using hc

theorem cd_take (l : List UInt8) (i : Nat) : cd (l.take i) = min i (cd l) := by
  induction l generalizing i with
  | nil => simp [cd]
  | cons c l ih =>
    cases i with
    | zero => simp [cd]
    | succ i =>
      simp only [List.take_succ_cons, cd, ih]
      split <;> omega

theorem cd_drop (l : List UInt8) (i : Nat) (hi : i ≤ cd l) : cd (l.drop i) = cd l - i := by
  induction l generalizing i with
  | nil => simp [cd]
  | cons c l ih =>
    cases i with
    | zero => simp
    | succ i =>
      by_cases hc : isD c
      · simp only [cd, hc, if_true] at hi ⊢
        simp only [List.drop_succ_cons]
        rw [ih i (by omega)]
        omega
      · simp [cd, hc] at hi

/-- a byte put in at i -/
theorem cd_insert (l : List UInt8) (i : Nat) (c : UInt8) (hi : i ≤ l.length) :
    cd (l.take i ++ c :: l.drop i) = if cd l < i then cd l else if isD c then cd l + 1 else i := by
  rw [cd_append, cd_take]
  have hl : (l.take i).length = i := by simp [hi]
  rw [hl]
  by_cases h : cd l < i
  · rw [if_pos h, if_pos (by omega)]; omega
  · rw [if_neg h, if_neg (by omega)]
    simp only [cd]
    by_cases hc : isD c
    · simp only [hc, if_true]
      rw [cd_drop l i (by omega)]; omega
    · simp [hc]

end Go.Proofs.Qxb6628588a.Plain
