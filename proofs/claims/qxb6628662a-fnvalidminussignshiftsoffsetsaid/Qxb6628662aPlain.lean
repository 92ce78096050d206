namespace Go.Proofs.Qxb6628662a.Plain

/-- a byte is a decimal digit -/
def isD (c : Int) : Bool := decide (48 ≤ c) && decide (c ≤ 57)

/-- how many digits a list of bytes starts with -/
def cd : List Int → Nat
  | [] => 0
  | c :: l => if isD c then cd l + 1 else 0

theorem cd_le (l : List Int) : cd l ≤ l.length := by
  induction l with
  | nil => simp [cd]
  | cons c l ih => simp only [cd]; split <;> simp <;> omega

/-- the automaton's move; -1 where there is none -/
def step (s c : Int) : Int :=
  if s = 0 then (if c = 45 then 1 else if c = 48 then 2 else if isD c then 3 else -1)
  else if s = 1 then (if c = 48 then 2 else if isD c then 3 else -1)
  else if s = 2 then (if c = 46 then 4 else if c = 101 ∨ c = 69 then 6 else -1)
  else if s = 3 then (if isD c then 3 else if c = 46 then 4 else if c = 101 ∨ c = 69 then 6 else -1)
  else if s = 4 then (if isD c then 5 else -1)
  else if s = 5 then (if isD c then 5 else if c = 101 ∨ c = 69 then 6 else -1)
  else if s = 6 then (if c = 43 ∨ c = 45 then 7 else if isD c then 8 else -1)
  else if s = 7 then (if isD c then 8 else -1)
  else if s = 8 then (if isD c then 8 else -1)
  else -1

def accepts (s : Int) : Bool := s == 2 || s == 3 || s == 5 || s == 8

/-- from state s at offset i: the offset of the refusal, or none where the text is accepted -/
def aut (s : Int) : List Int → Nat → Option Nat
  | [], i => if accepts s then none else some i
  | c :: l, i => if step s c < 0 then some i else aut (step s c) l (i + 1)

/-- what 'split' gives: none where text is a number, else the offset -/
def tail2 (n : Nat) (l : List Int) : Option Nat :=
  match l with
  | [] => none
  | _ :: _ => some (n - l.length)

/-- the exponent's digits -/
def expD (n : Nat) (l : List Int) : Option Nat :=
  if cd l = 0 then some (n - (l.drop (cd l)).length) else tail2 n (l.drop (cd l))

/-- the exponent's sign, if there is one, then its digits -/
def sgn (n : Nat) (t : List Int) : Option Nat :=
  match t with
  | [] => expD n []
  | d :: u => if d = 43 ∨ d = 45 then expD n u else expD n (d :: u)

def expo (n : Nat) (l : List Int) : Option Nat :=
  match l with
  | [] => tail2 n l
  | c :: t => if c = 101 ∨ c = 69 then sgn n t else tail2 n l

def frac (n : Nat) (l : List Int) : Option Nat :=
  match l with
  | [] => expo n l
  | c :: t => if c = 46 then (if cd t = 0 then some (n - (t.drop (cd t)).length) else expo n (t.drop (cd t))) else expo n l

def whole (n : Nat) (l : List Int) : Option Nat :=
  if cd l = 0 then some (n - l.length)
  else if 1 < cd l ∧ l.head? = some 48 then some (n - l.length + 1)
  else frac n (l.drop (cd l))

def split (l : List Int) : Option Nat :=
  match l with
  | [] => whole 0 []
  | c :: t => if c = 45 then whole l.length t else whole l.length l

theorem isD_iff (c : Int) : isD c = true ↔ 48 ≤ c ∧ c ≤ 57 := by simp [isD]

theorem aut3 (l : List Int) (i : Nat) : aut 3 l i = aut 3 (l.drop (cd l)) (i + cd l) := by
  induction l generalizing i with
  | nil => simp [cd]
  | cons c l ih =>
    by_cases h : isD c
    · simp only [cd, h, if_true, List.drop_succ_cons]
      rw [show i + (cd l + 1) = (i + 1) + cd l by omega, ← ih (i + 1)]
      simp [aut, step, h]
    · simp [cd, h]
theorem aut5 (l : List Int) (i : Nat) : aut 5 l i = aut 5 (l.drop (cd l)) (i + cd l) := by
  induction l generalizing i with
  | nil => simp [cd]
  | cons c l ih =>
    by_cases h : isD c
    · simp only [cd, h, if_true, List.drop_succ_cons]
      rw [show i + (cd l + 1) = (i + 1) + cd l by omega, ← ih (i + 1)]
      simp [aut, step, h]
    · simp [cd, h]
theorem aut8 (l : List Int) (i : Nat) : aut 8 l i = aut 8 (l.drop (cd l)) (i + cd l) := by
  induction l generalizing i with
  | nil => simp [cd]
  | cons c l ih =>
    by_cases h : isD c
    · simp only [cd, h, if_true, List.drop_succ_cons]
      rw [show i + (cd l + 1) = (i + 1) + cd l by omega, ← ih (i + 1)]
      simp [aut, step, h]
    · simp [cd, h]

/-- behind the digits no digit stands -/
theorem drop_cd (l : List Int) : ∀ c t, l.drop (cd l) = c :: t → isD c = false := by
  induction l with
  | nil => intro c t h; simp at h
  | cons a l ih =>
    intro c t h
    by_cases ha : isD a
    · simp only [cd, ha, if_true, List.drop_succ_cons] at h
      exact ih c t h
    · simp [cd, ha] at h
      rw [← h.1]; simpa using ha

theorem drop_len (l : List Int) : (l.drop (cd l)).length + cd l = l.length := by
  have := cd_le l
  simp; omega

theorem aut8_end (n : Nat) (l : List Int) (i : Nat) (hd : ∀ c t, l = c :: t → isD c = false) (hn : n = i + l.length) : aut 8 l i = tail2 n l := by
  cases l with
  | nil => simp [aut, tail2, accepts]
  | cons c t =>
    have := hd c t rfl
    simp only [List.length_cons] at hn
    simp [aut, step, this, tail2]; omega

/-- digits are owed: from state 6 behind the sign, that is state 7; and 8 afterwards -/
theorem aut7_expD (n : Nat) (l : List Int) (i : Nat) (hn : n = i + l.length) : aut 7 l i = expD n l := by
  unfold expD
  cases l with
  | nil => simp [aut, accepts, cd] at hn ⊢; omega
  | cons c t =>
    by_cases h : isD c
    · have hc : cd (c :: t) = cd t + 1 := by simp [cd, h]
      rw [if_neg (by omega)]
      have e : aut 7 (c :: t) i = aut 8 (c :: t) i := by simp [aut, step, h]
      rw [e, aut8]
      refine aut8_end n _ _ (drop_cd _) ?_
      have := drop_len (c :: t)
      omega
    · have hc : cd (c :: t) = 0 := by simp [cd, h]
      rw [if_pos hc, hc]
      simp only [List.length_cons] at hn
      simp [aut, step, h]; omega

theorem aut6_expD (n : Nat) (t : List Int) (i : Nat) (hn : n = i + t.length) : aut 6 t i = sgn n t := by
  unfold sgn
  cases t with
  | nil => simp [aut, accepts, expD, cd] at hn ⊢; omega
  | cons d u =>
    simp only
    by_cases hs : d = 43 ∨ d = 45
    · rw [if_pos hs]
      rw [← aut7_expD n u (i + 1) (by simp at hn; omega)]
      simp [aut, step, hs]
    · rw [if_neg hs, ← aut7_expD n (d :: u) i hn]
      simp [aut, step, hs]

/-- from a state that takes digits, '.' aside, at a list that begins with no digit -/
theorem aut5_expo (n : Nat) (l : List Int) (i : Nat) (hd : ∀ c t, l = c :: t → isD c = false) (hn : n = i + l.length) : aut 5 l i = expo n l := by
  unfold expo
  cases l with
  | nil => simp [aut, accepts, tail2]
  | cons c t =>
    have := hd c t rfl
    simp only [List.length_cons] at hn
    simp only
    by_cases he : c = 101 ∨ c = 69
    · rw [if_pos he, ← aut6_expD n t (i + 1) (by omega)]
      simp [aut, step, this, he]
    · rw [if_neg he]
      simp [aut, step, this, he, tail2]; omega

theorem aut4_frac (n : Nat) (t : List Int) (i : Nat) (hn : n = i + t.length) : aut 4 t i = if cd t = 0 then some (n - (t.drop (cd t)).length) else expo n (t.drop (cd t)) := by
  cases t with
  | nil => simp [aut, accepts, cd] at hn ⊢; omega
  | cons c u =>
    by_cases h : isD c
    · have hc : cd (c :: u) = cd u + 1 := by simp [cd, h]
      rw [if_neg (by omega)]
      have e : aut 4 (c :: u) i = aut 5 (c :: u) i := by simp [aut, step, h]
      rw [e, aut5]
      refine aut5_expo n _ _ (drop_cd _) ?_
      have := drop_len (c :: u)
      omega
    · have hc : cd (c :: u) = 0 := by simp [cd, h]
      rw [if_pos hc, hc]
      simp only [List.length_cons] at hn
      simp [aut, step, h]; omega

theorem aut3_frac (n : Nat) (l : List Int) (i : Nat) (hd : ∀ c t, l = c :: t → isD c = false) (hn : n = i + l.length) : aut 3 l i = frac n l := by
  unfold frac
  cases l with
  | nil => simp [aut, accepts, expo, tail2]
  | cons c t =>
    have := hd c t rfl
    have hn' := hn
    simp only [List.length_cons] at hn
    simp only
    by_cases hp : c = 46
    · rw [if_pos hp, ← aut4_frac n t (i + 1) (by omega)]
      subst hp
      simp [aut, step, this]
    · rw [if_neg hp, ← aut5_expo n (c :: t) i hd hn']
      simp [aut, step, this, hp]

/-- a lone zero goes on as integer digits do, where no digit follows -/
theorem aut2_frac (n : Nat) (l : List Int) (i : Nat) (hd : ∀ c t, l = c :: t → isD c = false) (hn : n = i + l.length) : aut 2 l i = frac n l := by
  rw [← aut3_frac n l i hd hn]
  cases l with
  | nil => simp [aut, accepts]
  | cons c t => have := hd c t rfl; simp [aut, step, this]

theorem aut1_whole (n : Nat) (l : List Int) (i : Nat) (hn : n = i + l.length) : aut 1 l i = whole n l := by
  unfold whole
  cases l with
  | nil => simp [aut, accepts, cd] at hn ⊢; omega
  | cons c t =>
    have hn' := hn
    simp only [List.length_cons] at hn
    by_cases h : isD c
    · have hc : cd (c :: t) = cd t + 1 := by simp [cd, h]
      rw [if_neg (by omega)]
      have hl := drop_len (c :: t)
      by_cases h0 : c = 48
      · subst h0
        have e : aut 1 (48 :: t) i = aut 2 t (i + 1) := by simp [aut, step]
        rw [e]
        by_cases ht : cd t = 0
        · rw [if_neg (by omega)]
          have hdr : (48 :: t).drop (cd (48 :: t)) = t := by rw [hc, ht]; simp
          rw [hdr]
          have hd := drop_cd (48 :: t)
          rw [hdr] at hd
          exact aut2_frac n t (i + 1) hd (by omega)
        · rw [if_pos ⟨by omega, by simp⟩]
          cases t with
          | nil => simp [cd] at ht
          | cons d u =>
            have hd : isD d = true := by
              by_cases hd : isD d
              · exact hd
              · simp [cd, hd] at ht
            have hb := (isD_iff d).1 hd
            have h46 : ¬ d = 46 := by omega
            have h6 : ¬ (d = 101 ∨ d = 69) := by omega
            simp [aut, step, h46, h6]; simp at hn; omega
      · rw [if_neg (by rintro ⟨_, h2⟩; simp at h2; exact h0 h2)]
        have e : aut 1 (c :: t) i = aut 3 (c :: t) i := by simp [aut, step, h, h0]
        rw [e, aut3]
        exact aut3_frac n _ _ (drop_cd _) (by omega)
    · have hc : cd (c :: t) = 0 := by simp [cd, h]
      have h0 : ¬ c = 48 := by intro e; subst e; exact h (by decide)
      rw [if_pos hc]
      simp [aut, step, h, h0]; omega

theorem aut0_split (l : List Int) : aut 0 l 0 = split l := by
  unfold split
  cases l with
  | nil => simp [aut, accepts, whole, cd]
  | cons c t =>
    simp only
    by_cases h : c = 45
    · rw [if_pos h, ← aut1_whole _ t 1 (by simp; omega)]
      simp [aut, step, h]
    · rw [if_neg h, ← aut1_whole _ (c :: t) 0 (by simp)]
      simp [aut, step, h]

/-- the minus sign shifts the offset -/
theorem aut_shift (s : Int) (l : List Int) (i k : Nat) : aut s l (i + k) = (aut s l i).map (· + k) := by
  induction l generalizing s i with
  | nil => simp only [aut]; split <;> simp
  | cons c l ih =>
    simp only [aut]
    split
    · simp
    · rw [show i + k + 1 = (i + 1) + k by omega, ih]

theorem split_minus (l : List Int) (h : l.head? ≠ some 45) : split (45 :: l) = (split l).map (· + 1) := by
  rw [← aut0_split, ← aut0_split]
  have e : aut 0 (45 :: l) 0 = aut 1 l (0 + 1) := by simp [aut, step]
  rw [e, aut_shift]
  congr 1
  cases l with
  | nil => simp [aut, accepts]
  | cons c t =>
    have hc : ¬ c = 45 := by simpa using h
    simp [aut, step, hc]

/-- the refusal lies within the text -/
theorem aut_le (s : Int) (l : List Int) (i a : Nat) (h : aut s l i = some a) : i ≤ a ∧ a ≤ i + l.length := by
  induction l generalizing s i with
  | nil =>
    simp only [aut] at h
    split at h <;> simp at h
    simp; omega
  | cons c l ih =>
    simp only [aut] at h
    split at h
    · simp at h; simp; omega
    · have := ih _ _ h
      simp; omega

theorem split_le (l : List Int) (a : Nat) (h : split l = some a) : a ≤ l.length := by
  rw [← aut0_split] at h
  have := aut_le _ _ _ _ h
  omega

/-- the text before the refusal is accepted, or refused at its end -/
theorem aut_take (s : Int) (l : List Int) (i a : Nat) (h : aut s l i = some a) : aut s (l.take (a - i)) i = none ∨ aut s (l.take (a - i)) i = some a := by
  induction l generalizing s i with
  | nil => right; simpa using h
  | cons c l ih =>
    have hle := aut_le _ _ _ _ h
    by_cases hs : step s c < 0
    · simp [aut, hs] at h
      subst h
      simp only [Nat.sub_self, List.take_zero, aut]
      split <;> simp
    · simp only [aut, hs, if_false] at h
      have hl2 := aut_le _ _ _ _ h
      have e : a - i = (a - (i + 1)) + 1 := by omega
      rw [e, List.take_succ_cons]
      simp only [aut, hs, if_false]
      exact ih _ _ h

theorem split_take (l : List Int) (a : Nat) (h : split l = some a) : split (l.take a) = none ∨ split (l.take a) = some a := by
  rw [← aut0_split] at h ⊢
  have := aut_take _ _ _ _ h
  simpa using this

/-- digits alone -/
theorem split_digits (l : List Int) (h : ∀ c ∈ l, isD c = true) : split l = if l.length = 0 then some 0 else if 1 < l.length ∧ l.head? = some 48 then some 1 else none := by
  have hcd : cd l = l.length := by
    induction l with
    | nil => rfl
    | cons c l ih => simp [cd, h c (by simp), ih (fun c hc => h c (by simp [hc]))]
  cases l with
  | nil => simp [split, whole, cd]
  | cons c t =>
    have hc := (isD_iff c).1 (h c (by simp))
    have h45 : ¬ c = 45 := by omega
    simp only [split, h45, if_false, whole, hcd]
    simp [frac, expo, tail2]

end Go.Proofs.Qxb6628662a.Plain
