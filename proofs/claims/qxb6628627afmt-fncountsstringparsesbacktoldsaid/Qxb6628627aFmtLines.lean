import Derived.Test.Qxb6628627aFmtBack
namespace Go.Proofs.Qxb6628627aFmt
open Go.RowKit Go.Extern.Stop Go.Stop Go.Extern Go.Kit

theorem dd_mem (u : Nat) (c : UInt8) (h : c ∈ Lib.decDigits u) : 48 ≤ c.toNat := by
  obtain ⟨j, hj, e⟩ := List.getElem_of_mem h
  have := Plain.dd_dv u j hj
  rw [e] at this
  omega
theorem itoa_mem (v : Int) (c : UInt8) (h : c ∈ Lib.itoa v) : c.toNat ≠ 32 := by
  unfold Lib.itoa at h
  split at h
  · rcases List.mem_cons.1 h with e | e
    · rw [e]; decide
    · have := dd_mem _ c e; omega
  · have := dd_mem _ c h; omega
theorem itoa_ne (v : Int) : Lib.itoa v ≠ [] := by
  unfold Lib.itoa
  split
  · simp
  · have := Plain.dl_pos v.toNat
    unfold Plain.dl at this
    intro e
    rw [e] at this
    simp at this
theorem nm_ok (i : Nat) (hi : i < 8) : nm i ≠ [] ∧ ∀ c ∈ nm i, c.toNat ≠ 32 := by
  have hc : i = 0 ∨ i = 1 ∨ i = 2 ∨ i = 3 ∨ i = 4 ∨ i = 5 ∨ i = 6 ∨ i = 7 := by omega
  rcases hc with rfl | rfl | rfl | rfl | rfl | rfl | rfl | rfl <;> exact ⟨by decide, by decide⟩

/-- the line's words -/
def toks (n : Nat) (val : Nat → Int) : List (List UInt8) := (List.range (2 * n)).map fun k => if k % 2 = 0 then nm (k / 2) else Lib.itoa (val (k / 2))
theorem toks_length (n : Nat) (val : Nat → Int) : (toks n val).length = 2 * n := by simp [toks]
theorem toks_get (n : Nat) (val : Nat → Int) (k : Nat) (hk : k < (toks n val).length) : (toks n val)[k] = if k % 2 = 0 then nm (k / 2) else Lib.itoa (val (k / 2)) := by simp [toks]
theorem toks_ok (n : Nat) (hn : n ≤ 8) (val : Nat → Int) (k : Nat) (hk : k < (toks n val).length) : (toks n val)[k] ≠ [] ∧ ∀ c ∈ (toks n val)[k], c.toNat ≠ 32 := by
  have hl := toks_length n val
  rw [toks_get]
  by_cases h : k % 2 = 0
  · rw [if_pos h]; exact nm_ok _ (by omega)
  · rw [if_neg h]; exact ⟨itoa_ne _, itoa_mem _⟩

theorem ba_size (l : List UInt8) : (⟨l.toArray⟩ : ByteArray).size = l.length := by show l.toArray.size = l.length; simp
theorem ba_get (l : List UInt8) (i : Nat) (h' : i < l.length) : (⟨l.toArray⟩ : ByteArray)[i]'(by rw [ba_size]; exact h') = l[i] := rfl

theorem sep_len0 : (Plain.sep 0).length = 0 := rfl
theorem sep_len (k : Nat) (h : 0 < k) : (Plain.sep k).length = 1 := by unfold Plain.sep; rw [if_neg (by omega)]; rfl

theorem line_of_toks (n : Nat) (hn : n ≤ 8) (val : Nat → Int) (l : List UInt8) (hl : l = Plain.lineOf (toks n val)) :
    Line ⟨l.toArray⟩ n val (Plain.pos (toks n val)) (fun k => Plain.pos (toks n val) k + (Plain.sep k).length) := by
  subst hl
  have hlen := toks_length n val
  have hok := toks_ok n hn val
  have hget := toks_get n val
  generalize toks n val = ts at *
  have cut : ∀ k, (hk : k < ts.length) → ((⟨(Plain.lineOf ts).toArray⟩ : ByteArray).extract (Plain.pos ts k + (Plain.sep k).length) (Plain.pos ts (k + 1))).data.toList = ts[k] := by
    intro k hk
    have := Plain.cut_tok ts k hk
    simp
    rw [Plain.pos_succ ts k hk, Nat.add_sub_cancel_left]
    exact this
  refine ⟨⟨Plain.pos_zero ts, by simp [Plain.pos_zero, sep_len0]⟩, fun k h0 hk => by simp [sep_len k h0], fun k h0 hk => ?_, fun k hk => ⟨?_, ?_⟩, fun k hk q h1 h2 => ?_, fun k hk h => ?_, fun k hk hp => ?_, fun k hk hp => ?_, ?_⟩
  · obtain ⟨h1, h2⟩ := Plain.at_blank ts k (by omega) h0
    refine ⟨by rw [ba_size]; exact h1, ?_⟩
    rw [ba_get _ _ h1, h2]; rfl
  · have h1 := Plain.pos_succ ts k (by omega)
    have h2 := (hok k (by omega)).1
    have h3 : 0 < ts[k].length := List.length_pos_iff.2 h2
    show Plain.pos ts k + (Plain.sep k).length < _
    omega
  · rw [ba_size]; exact Plain.pos_le ts k (by omega)
  · have h3 := Plain.pos_succ ts k (by omega)
    have h1' : Plain.pos ts k + (Plain.sep k).length ≤ q := h1
    obtain ⟨i, rfl⟩ : ∃ i, q = Plain.pos ts k + (Plain.sep k).length + i := ⟨q - (Plain.pos ts k + (Plain.sep k).length), by omega⟩
    have hi : i < (ts[k]'(by omega)).length := by omega
    obtain ⟨h4, h5⟩ := Plain.at_tok ts k (by omega) i hi
    refine ⟨by rw [ba_size]; exact h4, ?_⟩
    rw [ba_get _ _ h4, h5]
    exact (hok k (by omega)).2 _ (List.getElem_mem _)
  · have h1 : Plain.pos ts (k + 1) < (Plain.lineOf ts).length := by rw [ba_size] at h; exact h
    rw [ba_get _ _ h1, Plain.at_end ts k (by omega) h1]; rfl
  · have := cut k (by omega)
    rw [hget, if_pos hp] at this
    exact bytes_of_list this
  · have := cut k (by omega)
    rw [hget, if_neg (by omega)] at this
    exact this
  · rw [ba_size, ← hlen]; exact Plain.pos_full ts

theorem lineT_toks (r d s a j t p m : Int) : lineT r d s a j t p = Plain.lineOf (toks 7 (fun i => [r, d, s, a, j, t, p, m].getD i 0)) := by
  simp [lineT, toks, Plain.lineOf, Plain.tl, List.range, List.range.loop, nm]
theorem lineM_toks (r d s a j t p m : Int) : lineT r d s a j t p ++ malT m = Plain.lineOf (toks 8 (fun i => [r, d, s, a, j, t, p, m].getD i 0)) := by
  simp [lineT, malT, toks, Plain.lineOf, Plain.tl, List.range, List.range.loop, nm]
end Go.Proofs.Qxb6628627aFmt
