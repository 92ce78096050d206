import Derived.Test.Qxb6628627aFmtPlain
namespace Go.Proofs.Qxb6628627aFmt.Plain
open Go

/-- each token behind a blank -/
def tl (ts : List (List UInt8)) : List UInt8 := ts.flatMap fun t => 32 :: t
/-- the tokens, parted by single blanks -/
def lineOf : List (List UInt8) → List UInt8
  | [] => []
  | t :: ts => t ++ tl ts

theorem tl_cons (t : List UInt8) (ts : List (List UInt8)) : tl (t :: ts) = 32 :: (t ++ tl ts) := by simp [tl]
theorem tl_append (a b : List (List UInt8)) : tl (a ++ b) = tl a ++ tl b := by simp [tl]
theorem tl_head (ts : List (List UInt8)) : tl ts = [] ∨ ∃ l, tl ts = 32 :: l := by
  cases ts with
  | nil => left; rfl
  | cons t ts => right; exact ⟨_, tl_cons t ts⟩

/-- what stands ahead of token k -/
def sep (k : Nat) : List UInt8 := if k = 0 then [] else [32]

theorem line_take (ts : List (List UInt8)) (k : Nat) (hk : k < ts.length) : lineOf (ts.take (k + 1)) = lineOf (ts.take k) ++ sep k ++ ts[k] := by
  cases ts with
  | nil => simp at hk
  | cons t ts =>
    cases k with
    | zero => simp [lineOf, sep, tl]
    | succ k =>
      have hk' : k < ts.length := by simpa using hk
      simp only [List.take_succ_cons, lineOf, List.getElem_cons_succ]
      rw [List.take_succ_eq_append_getElem hk', tl_append, tl_cons]
      simp [sep, tl]

theorem line_split (ts : List (List UInt8)) (k : Nat) (hk : k < ts.length) : lineOf ts = lineOf (ts.take k) ++ sep k ++ ts[k] ++ tl (ts.drop (k + 1)) := by
  rw [← line_take ts k hk]
  cases ts with
  | nil => simp at hk
  | cons t ts =>
    simp only [List.take_succ_cons, lineOf, List.drop_succ_cons]
    rw [List.append_assoc, ← tl_append, List.take_append_drop]

/-- where token k's blank stands (or the line's head) -/
def pos (ts : List (List UInt8)) (k : Nat) : Nat := (lineOf (ts.take k)).length
theorem pos_zero (ts : List (List UInt8)) : pos ts 0 = 0 := by simp [pos, lineOf]
theorem pos_succ (ts : List (List UInt8)) (k : Nat) (hk : k < ts.length) : pos ts (k + 1) = pos ts k + (sep k).length + ts[k].length := by
  unfold pos; rw [line_take ts k hk]; simp; omega
theorem pos_full (ts : List (List UInt8)) : pos ts ts.length = (lineOf ts).length := by unfold pos; rw [List.take_length]
theorem pos_le (ts : List (List UInt8)) (k : Nat) (hk : k < ts.length) : pos ts (k + 1) ≤ (lineOf ts).length := by
  rw [line_split ts k hk, pos_succ ts k hk]
  simp [pos]; omega

/-- the blank ahead of a later token -/
theorem at_blank (ts : List (List UInt8)) (k : Nat) (hk : k < ts.length) (h0 : 0 < k) : ∃ h : pos ts k < (lineOf ts).length, (lineOf ts)[pos ts k] = 32 := by
  have e : sep k = [32] := by unfold sep; rw [if_neg (by omega)]
  have hs := line_split ts k hk
  rw [e] at hs
  have hlt : pos ts k < (lineOf ts).length := by rw [hs]; simp [pos]
  refine ⟨hlt, ?_⟩
  have h2 : (lineOf ts)[pos ts k]? = some 32 := by
    rw [hs, List.append_assoc, List.append_assoc, List.getElem?_append_right (by simp [pos])]
    simp [pos]
  rw [List.getElem?_eq_getElem hlt] at h2
  exact Option.some.inj h2

/-- the token's own bytes -/
theorem at_tok (ts : List (List UInt8)) (k : Nat) (hk : k < ts.length) (i : Nat) (hi : i < ts[k].length) :
    ∃ h : pos ts k + (sep k).length + i < (lineOf ts).length, (lineOf ts)[pos ts k + (sep k).length + i] = ts[k][i] := by
  have hs := line_split ts k hk
  have hlt : pos ts k + (sep k).length + i < (lineOf ts).length := by rw [hs]; simp [pos]; omega
  refine ⟨hlt, ?_⟩
  have h2 : (lineOf ts)[pos ts k + (sep k).length + i]? = some ts[k][i] := by
    rw [hs, List.append_assoc, List.getElem?_append_right (by simp [pos])]
    have : pos ts k + (sep k).length + i - (lineOf (ts.take k) ++ sep k).length = i := by simp [pos]
    rw [this, List.getElem?_append_left hi, List.getElem?_eq_getElem hi]
  rw [List.getElem?_eq_getElem hlt] at h2
  exact Option.some.inj h2

/-- behind the token: a blank, or nothing -/
theorem at_end (ts : List (List UInt8)) (k : Nat) (hk : k < ts.length) (h : pos ts (k + 1) < (lineOf ts).length) : (lineOf ts)[pos ts (k + 1)] = 32 := by
  have hs := line_split ts k hk
  have hl : (lineOf (ts.take k) ++ sep k ++ ts[k]).length = pos ts (k + 1) := by rw [pos_succ ts k hk]; simp [pos]; omega
  have h2 : (lineOf ts)[pos ts (k + 1)]? = some 32 := by
    rw [hs, List.getElem?_append_right (by rw [hl]; exact Nat.le_refl _), hl, Nat.sub_self]
    rcases tl_head (ts.drop (k + 1)) with e | ⟨l, e⟩
    · exfalso
      rw [hs, e, List.append_nil] at h
      omega
    · rw [e]; rfl
  rw [List.getElem?_eq_getElem h] at h2
  exact Option.some.inj h2

/-- the token, cut out -/
theorem cut_tok (ts : List (List UInt8)) (k : Nat) (hk : k < ts.length) : ((lineOf ts).drop (pos ts k + (sep k).length)).take ts[k].length = ts[k] := by
  have hs := line_split ts k hk
  rw [hs]
  have hl : (lineOf (ts.take k) ++ sep k).length = pos ts k + (sep k).length := by simp [pos]
  rw [List.append_assoc, List.drop_append, ← hl]
  simp

end Go.Proofs.Qxb6628627aFmt.Plain
