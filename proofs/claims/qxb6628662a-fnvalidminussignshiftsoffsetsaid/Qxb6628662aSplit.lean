import Derived.Test.Qxb6628662aDigits
import Derived.Deep.DeepCutAuto
import Derived.RegionTactic
import Derived.BigRegion
namespace Go.Proofs.Qxb6628662a
open Go.RowKit

/-- what 'split' answers for the offset -/
def bad (o : Option Nat) : Int := match o with | none => -1 | some i => i

theorem Sl.head {w : World} {a : Option Addr} {len cap : Nat} {l : List Int} (h : Sl w a len cap l) :
    (len = 0 ∧ l = []) ∨ ∃ c t b off, l = c :: t ∧ a = some ⟨b, off, none⟩ ∧ 0 < len ∧ w.cell? ⟨b, off, none⟩ = some (.int .u8 c) ∧ b < w.heap.size ∧ 0 ≤ c ∧ c ≤ 255 := by
  have hl := h.1
  cases l with
  | nil => left; exact ⟨by simpa using hl, rfl⟩
  | cons c t =>
    right
    have h0 : 0 < len := by rw [hl]; simp
    obtain ⟨b, off, e, hc, hb, c0, c1⟩ := h.cell 0 h0
    exact ⟨c, t, b, off, rfl, e, h0, by simpa using hc, hb, by simpa using c0, by simpa using c1⟩

/-- the list begins with c -/
def hd (l : List Int) (c : Int) : Bool := l.head? == some c
theorem hd_nil (c : Int) : hd [] c = false := rfl
theorem hd_cons (x c : Int) (t : List Int) : hd (x :: t) c = (x == c) := by simp [hd]

theorem Sl.below {w wx : World} {a : Option Addr} {len cap : Nat} {l : List Int} (h : Sl w a len cap l) (hb : Below w.heap.size w wx) : Sl wx a len cap l := by
  refine ⟨h.1, h.2.1, h.2.2.1, h.2.2.2.1, fun h0 => ?_⟩
  obtain ⟨b, off, e, hc⟩ := h.2.2.2.2 h0
  refine ⟨b, off, e, fun i hi => ?_⟩
  have hb' : b < w.heap.size := block_lt_of_cell (hc i hi)
  rw [hb.cell (p := ⟨b, off + i, none⟩) hb', hc i hi]

/-- the world in which the box of 'lit' holds these five cells, and all that was there is as it was -/
structure Bx (w wx : World) (f0 f1 f2 f3 f4 : Value) : Prop where
  bel : Below w.heap.size w wx
  blk : wx.heap[w.heap.size]? = some (.cells #[f0, f1, f2, f3, f4] 27 (0, 0))
section
variable {w wx : World} {f0 f1 f2 f3 f4 : Value}
theorem Bx.start (w : World) (f0 f1 f2 f3 f4 : Value) : Bx w (w.alloc (.cells #[f0, f1, f2, f3, f4] 27)) f0 f1 f2 f3 f4 := ⟨(Below.refl _ _).alloc (Nat.le_refl _) _, heap_alloc_new _ _⟩
theorem Bx.drewN (h : Bx w wx f0 f1 f2 f3 f4) (n : Nat) : Bx w (wx.drewN n) f0 f1 f2 f3 f4 := ⟨below_drewN h.bel n, h.blk⟩
theorem Bx.drew (h : Bx w wx f0 f1 f2 f3 f4) : Bx w wx.drew f0 f1 f2 f3 f4 := ⟨h.bel.drew, h.blk⟩
theorem Bx.c0 (h : Bx w wx f0 f1 f2 f3 f4) : wx.cell? ⟨w.heap.size, 0, none⟩ = some f0 := by rw [cell_of_row wx _ 0 _ 27 (0, 0) h.blk]; rfl
theorem Bx.c1 (h : Bx w wx f0 f1 f2 f3 f4) : wx.cell? ⟨w.heap.size, 1, none⟩ = some f1 := by rw [cell_of_row wx _ 1 _ 27 (0, 0) h.blk]; rfl
theorem Bx.c2 (h : Bx w wx f0 f1 f2 f3 f4) : wx.cell? ⟨w.heap.size, 2, none⟩ = some f2 := by rw [cell_of_row wx _ 2 _ 27 (0, 0) h.blk]; rfl
theorem Bx.c3 (h : Bx w wx f0 f1 f2 f3 f4) : wx.cell? ⟨w.heap.size, 3, none⟩ = some f3 := by rw [cell_of_row wx _ 3 _ 27 (0, 0) h.blk]; rfl
theorem Bx.c4 (h : Bx w wx f0 f1 f2 f3 f4) : wx.cell? ⟨w.heap.size, 4, none⟩ = some f4 := by rw [cell_of_row wx _ 4 _ 27 (0, 0) h.blk]; rfl
theorem Bx.fz (h : Bx w wx f0 f1 f2 f3 f4) (i : Nat) : wx.frozen? ⟨w.heap.size, i, none⟩ = false := frozen_of_row wx _ i _ 27 h.blk
theorem Bx.s0 (h : Bx w wx f0 f1 f2 f3 f4) (v : Value) : Bx w (wx.setCell ⟨w.heap.size, 0, none⟩ v) v f1 f2 f3 f4 := ⟨h.bel.setCell (Nat.le_refl _) v, by rw [heap_setCell_same wx _ 0 _ 27 v h.blk]; rfl⟩
theorem Bx.s1 (h : Bx w wx f0 f1 f2 f3 f4) (v : Value) : Bx w (wx.setCell ⟨w.heap.size, 1, none⟩ v) f0 v f2 f3 f4 := ⟨h.bel.setCell (Nat.le_refl _) v, by rw [heap_setCell_same wx _ 1 _ 27 v h.blk]; rfl⟩
theorem Bx.s2 (h : Bx w wx f0 f1 f2 f3 f4) (v : Value) : Bx w (wx.setCell ⟨w.heap.size, 2, none⟩ v) f0 f1 v f3 f4 := ⟨h.bel.setCell (Nat.le_refl _) v, by rw [heap_setCell_same wx _ 2 _ 27 v h.blk]; rfl⟩
theorem Bx.s3 (h : Bx w wx f0 f1 f2 f3 f4) (v : Value) : Bx w (wx.setCell ⟨w.heap.size, 3, none⟩ v) f0 f1 f2 v f4 := ⟨h.bel.setCell (Nat.le_refl _) v, by rw [heap_setCell_same wx _ 3 _ 27 v h.blk]; rfl⟩
theorem Bx.s4 (h : Bx w wx f0 f1 f2 f3 f4) (v : Value) : Bx w (wx.setCell ⟨w.heap.size, 4, none⟩ v) f0 f1 f2 f3 v := ⟨h.bel.setCell (Nat.le_refl _) v, by rw [heap_setCell_same wx _ 4 _ 27 v h.blk]; rfl⟩
/-- all five cells written -/
theorem Bx.all (h : Bx w wx f0 f1 f2 f3 f4) (g0 g1 g2 g3 g4 : Value) : Bx w (((((wx.setCell ⟨w.heap.size, 0, none⟩ g0).setCell ⟨w.heap.size, 1, none⟩ g1).setCell ⟨w.heap.size, 2, none⟩ g2).setCell ⟨w.heap.size, 3, none⟩ g3).setCell ⟨w.heap.size, 4, none⟩ g4) g0 g1 g2 g3 g4 :=
  ((((h.s0 g0).s1 g1).s2 g2).s3 g3).s4 g4
theorem info27 : (Try.prog.info? 27).map (·.size) = some 5 := by kernel_rfl
/-- what 'split' hands back -/
theorem res10 (h : Bx w wx f0 f1 f2 f3 f4) (tmps : Array Value) (v3 : Value) (h2 : tmps.getD 2 undef = .pointer (some ⟨w.heap.size, 0, none⟩)) (h3 : tmps.getD 3 undef = v3) :
    (results Try.f10 tmps).run Try.prog wx = .ok (.tuple #[.agg #[f0, f1, f2, f3, f4], v3]) wx := by
  have h2' : tmps[2]?.getD undef = .pointer (some ⟨w.heap.size, 0, none⟩) := by simpa using h2
  have h3' : tmps[3]?.getD undef = v3 := by simpa using h3
  simp [results, Try.results10, h2', h3', asAddr, run_loadVar_row wx w.heap.size 27 27 #[f0, f1, f2, f3, f4] (0, 0) _ h.blk Try.underlying27 rfl info27]
end
/-- the post of 'split' -/
def Said (w : World) (l : List Int) (e : Ending) (w' : World) : Prop :=
  (∃ b0 b1 a2 n2 c2 a3 n3 c3 a4 n4 c4, e = .returned (.tuple #[.agg #[.bool b0, .bool b1, .slice a2 n2 c2, .slice a3 n3 c3, .slice a4 n4 c4], .int .i64 (bad (Plain.split l))])) ∧ Below w.heap.size w w'
/-- the way out where the text is refused: the box is emptied -/
theorem out_bad {w wx : World} {f0 f1 f2 f3 f4 : Value} (h : Bx w wx f0 f1 f2 f3 f4) (l : List Int) (tmps : Array Value) (v : Int) (hv : bad (Plain.split l) = v)
    (h2 : tmps.getD 2 undef = .pointer (some ⟨w.heap.size, 0, none⟩)) (h3 : tmps.getD 3 undef = .int .i64 v) :
    bodyPost Try.prog Try.f10 (Said w l) Exit.ret { tmps := tmps, defers := [] } (((((wx.setCell ⟨w.heap.size, 0, none⟩ (.bool false)).setCell ⟨w.heap.size, 1, none⟩ (.bool false)).setCell ⟨w.heap.size, 2, none⟩ (.slice none 0 0)).setCell ⟨w.heap.size, 3, none⟩ (.slice none 0 0)).setCell ⟨w.heap.size, 4, none⟩ (.slice none 0 0)) := by
  have hB := h.all (.bool false) (.bool false) (.slice none 0 0) (.slice none 0 0) (.slice none 0 0)
  exact bodyPost_ret (v := .tuple #[.agg #[.bool false, .bool false, .slice none 0 0, .slice none 0 0, .slice none 0 0], .int .i64 v]) (res10 hB tmps _ h2 h3) rfl ⟨⟨_, _, _, _, _, _, _, _, _, _, _, by rw [hv]⟩, hB.bel⟩

theorem run_one (a : Option Addr) (len cap : Nat) (hi : 1 ≤ len) (w : World) : (Instr.slice 22 (.slice a len cap) (some (.int .i64 1)) none none).run Try.prog w = .ok (.slice (Qxb6628662a.adv a cap 1) (len - 1) (cap - 1)) w := run_from a len cap 1 hi w

theorem split_plus (l : List Int) (h : hd l 45 = false) : Plain.split l = Plain.whole l.length l := by
  cases l with
  | nil => rfl
  | cons c t =>
    rw [hd_cons] at h
    have : ¬ c = 45 := by simpa using h
    simp [Plain.split, this]
theorem split_minus' (l : List Int) (h : hd l 45 = true) : Plain.split l = Plain.whole l.length (l.drop 1) := by
  cases l with
  | nil => simp [hd] at h
  | cons c t =>
    rw [hd_cons] at h
    have : c = 45 := by simpa using h
    simp [Plain.split, this]
theorem whole_zero (n : Nat) (l : List Int) (h : Plain.cd l = 0) : Plain.whole n l = some (n - l.length) := by unfold Plain.whole; rw [if_pos h]
theorem whole_lead (n : Nat) (l : List Int) (h1 : 1 < Plain.cd l) (h : hd l 48 = true) : Plain.whole n l = some (n - l.length + 1) := by
  unfold Plain.whole; rw [if_neg (by omega), if_pos ⟨h1, by simpa [hd] using h⟩]
theorem whole_go (n : Nat) (l : List Int) (h0 : Plain.cd l ≠ 0) (h : ¬ (1 < Plain.cd l ∧ hd l 48 = true)) : Plain.whole n l = Plain.frac n (l.drop (Plain.cd l)) := by
  unfold Plain.whole; rw [if_neg h0, if_neg (fun ⟨a, b⟩ => h ⟨a, by simpa [hd] using b⟩)]
theorem frac_no (n : Nat) (l : List Int) (h : hd l 46 = false) : Plain.frac n l = Plain.expo n l := by
  cases l with
  | nil => rfl
  | cons c t =>
    rw [hd_cons] at h
    have : ¬ c = 46 := by simpa using h
    simp [Plain.frac, this]
theorem frac_yes (n : Nat) (l : List Int) (h : hd l 46 = true) : Plain.frac n l = if Plain.cd (l.drop 1) = 0 then some (n - ((l.drop 1).drop (Plain.cd (l.drop 1))).length) else Plain.expo n ((l.drop 1).drop (Plain.cd (l.drop 1))) := by
  cases l with
  | nil => simp [hd] at h
  | cons c t =>
    rw [hd_cons] at h
    have : c = 46 := by simpa using h
    simp [Plain.frac, this]
theorem expo_no (n : Nat) (l : List Int) (h : (hd l 101 || hd l 69) = false) : Plain.expo n l = Plain.tail2 n l := by
  cases l with
  | nil => rfl
  | cons c t =>
    rw [hd_cons, hd_cons] at h
    simp only [Bool.or_eq_false_iff, beq_eq_false_iff_ne] at h
    have : ¬ (c = 101 ∨ c = 69) := by rintro (e | e); exact h.1 e; exact h.2 e
    simp [Plain.expo, this]
theorem expo_yes (n : Nat) (l : List Int) (h : (hd l 101 || hd l 69) = true) : Plain.expo n l = Plain.sgn n (l.drop 1) := by
  cases l with
  | nil => simp [hd] at h
  | cons c t =>
    rw [hd_cons, hd_cons] at h
    simp only [Bool.or_eq_true, beq_iff_eq] at h
    simp [Plain.expo, h]
theorem sgn_no (n : Nat) (l : List Int) (h : (hd l 43 || hd l 45) = false) : Plain.sgn n l = Plain.expD n l := by
  cases l with
  | nil => rfl
  | cons c t =>
    rw [hd_cons, hd_cons] at h
    simp only [Bool.or_eq_false_iff, beq_eq_false_iff_ne] at h
    have : ¬ (c = 43 ∨ c = 45) := by rintro (e | e); exact h.1 e; exact h.2 e
    simp [Plain.sgn, this]
theorem sgn_yes (n : Nat) (l : List Int) (h : (hd l 43 || hd l 45) = true) : Plain.sgn n l = Plain.expD n (l.drop 1) := by
  cases l with
  | nil => simp [hd] at h
  | cons c t =>
    rw [hd_cons, hd_cons] at h
    simp only [Bool.or_eq_true, beq_iff_eq] at h
    simp [Plain.sgn, h]
theorem hd2_len {l : List Int} {c d : Int} (h : (hd l c || hd l d) = true) : 1 ≤ l.length := by
  cases l with
  | nil => simp [hd] at h
  | cons x t => simp
theorem hd_len {l : List Int} {c : Int} (h : hd l c = true) : 1 ≤ l.length := by
  cases l with
  | nil => simp [hd] at h
  | cons x t => simp

/-- the way out where the text is a number -/
theorem out_good {w wx : World} {b0 b1 : Bool} {a2 a3 a4 : Option Addr} {n2 c2 n3 c3 n4 c4 : Nat} (h : Bx w wx (.bool b0) (.bool b1) (.slice a2 n2 c2) (.slice a3 n3 c3) (.slice a4 n4 c4)) (l : List Int) (tmps : Array Value) (hv : bad (Plain.split l) = -1)
    (h2 : tmps.getD 2 undef = .pointer (some ⟨w.heap.size, 0, none⟩)) (h3 : tmps.getD 3 undef = .int .i64 (-1)) :
    bodyPost Try.prog Try.f10 (Said w l) Exit.ret { tmps := tmps, defers := [] } (((((wx.setCell ⟨w.heap.size, 0, none⟩ (.bool b0)).setCell ⟨w.heap.size, 1, none⟩ (.bool b1)).setCell ⟨w.heap.size, 2, none⟩ (.slice a2 n2 c2)).setCell ⟨w.heap.size, 3, none⟩ (.slice a3 n3 c3)).setCell ⟨w.heap.size, 4, none⟩ (.slice a4 n4 c4)) := by
  have hB := h.all (.bool b0) (.bool b1) (.slice a2 n2 c2) (.slice a3 n3 c3) (.slice a4 n4 c4)
  exact bodyPost_ret (v := .tuple #[.agg #[.bool b0, .bool b1, .slice a2 n2 c2, .slice a3 n3 c3, .slice a4 n4 c4], .int .i64 (-1)]) (res10 hB tmps _ h2 h3) rfl ⟨⟨_, _, _, _, _, _, _, _, _, _, _, by rw [hv]⟩, hB.bel⟩
theorem bad_some {o : Option Nat} {i : Nat} (h : o = some i) : bad o = (i : Int) := by rw [h]; rfl
theorem tail2_nil (n : Nat) (l : List Int) (h : l.length = 0) : Plain.tail2 n l = none := by
  cases l with
  | nil => rfl
  | cons c t => simp at h
theorem tail2_cons (n : Nat) (l : List Int) (h : 0 < l.length) : Plain.tail2 n l = some (n - l.length) := by
  cases l with
  | nil => simp at h
  | cons c t => rfl

set_option maxRecDepth 100000 in
set_option maxHeartbeats 4000000 in
theorem split_any (a : Option Addr) (len cap : Nat) (l : List Int) (w : World) (h : Sl w a len cap l) : Calls Try.prog 10 #[.slice a len cap] w (Said w l) := by
  have H : Hid (Sl w a len cap l) := h
  have hlc : len ≤ cap := h.2.1
  have hc63 : cap ≤ 9223372036854775807 := h.2.2.1
  clear h
  go_enter Try.func10, Try.ntmps10
  go_upto_region 2 with fail
  have hB := Bx.start w (.bool false) (.bool false) (.slice none 0 0) (.slice none 0 0) (.slice none 0 0)
  generalize w.alloc (.cells #[.bool false, .bool false, .slice none 0 0, .slice none 0 0, .slice none 0 0] 27) = wa at hB ⊢
  go_cut [15] (fun s15 wx => s15 = .bool (hd l 45) ∧ wa = wx)
  case first =>
    rcases H.out.head with ⟨h0, e⟩ | ⟨c, t, b, off, e, ea, h0, hc, hb, c0, c1⟩
    · have d1 : decide (0 < len) = false := by simp; omega
      subst e
      go_wp2_with fail
      go_meet
      case rel => exact ⟨rfl, rfl⟩
    · subst ea
      have HE : Hid _ := e
      have hc' := hB.bel.cell (p := ⟨b, off, none⟩) hb
      rw [hc] at hc'
      clear e hc
      go_wp2_with fail
      all_goals go_meet
      case rel => exact ⟨by rw [HE.out, hd_cons], rfl⟩
  case rest =>
  obtain ⟨rfl, rfl⟩ := hcut
  go_upto_if 15 with fail
  go_cut [4] (fun s4 wx => ∃ a1 len1 cap1 l1 b0, s4 = .slice a1 len1 cap1 ∧ Sl w a1 len1 cap1 l1 ∧ Plain.split l = Plain.whole len l1 ∧ len1 ≤ len ∧ Bx w wx (.bool b0) (.bool false) (.slice none 0 0) (.slice none 0 0) (.slice none 0 0))
  case first =>
    cases hh : hd l 45 with
    | false =>
      have HH : Hid _ := hh
      clear hh
      go_wp2_with fail
      go_meet
      case rel => exact ⟨a, len, cap, l, false, rfl, H.out, by rw [split_plus l HH.out, H.out.1], by omega, hB⟩
    | true =>
      have h1 : 1 ≤ len := by rw [H.out.1]; exact hd_len hh
      have HH : Hid _ := hh
      clear hh
      have s1 := run_one a len cap h1
      have k0 := hB.c0
      have k1 := hB.fz
      go_wp2_with fail
      go_region
      go_wp2_with fail
      go_meet
      case rel => exact ⟨_, _, _, _, true, rfl, H.out.adv 1 h1, by rw [split_minus' l HH.out, H.out.1], by omega, (hB.s0 _).drew⟩
  case rest =>
  clear hB
  obtain ⟨a1, len1, cap1, l1, b0, rfl, h1, e1, hle, hB⟩ := hcut
  have H1 : Hid (Sl w a1 len1 cap1 l1) := h1
  have E1 : Hid _ := e1
  have hlc1 : len1 ≤ cap1 := h1.2.1
  have hc631 : cap1 ≤ 9223372036854775807 := h1.2.2.1
  clear h1 e1 wa
  go_wp2_with fail
  refine (digits_any a1 len1 cap1 l1 _ (H1.out.below hB.bel)).mono ?_
  rintro e w' ⟨rfl, m, rfl⟩
  have hB1 := hB.drewN m
  generalize wc.drewN m = wd at hB1 ⊢
  clear hB wc
  have hcd : Plain.cd l1 ≤ len1 := by rw [H1.out.1]; exact Plain.cd_le l1
  have H2 : Hid (Sl w (adv a1 cap1 (Plain.cd l1)) (len1 - Plain.cd l1) (cap1 - Plain.cd l1) (l1.drop (Plain.cd l1))) := H1.out.adv (Plain.cd l1) hcd
  have W0 : Hid _ := whole_zero len l1
  have W1 : Hid _ := whole_lead len l1
  have W2 : Hid _ := whole_go len l1
  have WL : Hid _ := H1.out.1
  generalize hk : Plain.cd l1 = k at *
  clear hk
  have k0 := hB1.c0
  have k1 := hB1.c1
  have k2 := hB1.c2
  have k3 := hB1.c3
  have k4 := hB1.c4
  have kf := hB1.fz
  by_cases hk0 : k = 0
  · have t1 : ((k : Int) == 0) = true := by simp [hk0]
    have EB : Hid (bad (Plain.split l) = (len : Int) - (len1 : Int)) := by rw [E1.out, W0.out hk0, ← WL.out]; show (((len - len1 : Nat)) : Int) = _; omega
    clear hk0
    go_wp2_with fail
    exact out_bad (hB1.s2 _) l _ _ EB.out rfl rfl
  have t1 : ((k : Int) == 0) = false := beq_eq_false_iff_ne.2 (by omega)
  obtain ⟨c, t, b, off, e, ea, h0, hc, hb, c0, c1⟩ : ∃ c t b off, l1 = c :: t ∧ a1 = some ⟨b, off, none⟩ ∧ 0 < len1 ∧ w.cell? ⟨b, off, none⟩ = some (.int .u8 c) ∧ b < w.heap.size ∧ 0 ≤ c ∧ c ≤ 255 := by
    rcases H1.out.head with ⟨h0, _⟩ | hh
    · omega
    · exact hh
  subst ea
  have HE : Hid _ := e
  clear e
  go_upto_region 8 with fail
  have hB2 := hB1.s2 (.slice (some ⟨b, off, none⟩) k cap1)
  generalize wd.setCell ⟨w.heap.size, 2, none⟩ (.slice (some ⟨b, off, none⟩) k cap1) = we at hB2 ⊢
  clear hB1 k0 k1 k2 k3 k4 kf wd
  go_cut [37] (fun s37 wx => s37 = .bool (decide (1 < k) && hd l1 48) ∧ we = wx)
  case first =>
    have k2 := hB2.c2
    have hc' := hB2.bel.cell (p := ⟨b, off, none⟩) hb
    rw [hc] at hc'
    clear hc
    by_cases hk1 : 1 < k
    · go_wp2_with fail
      all_goals go_meet
      case rel => exact ⟨by rw [HE.out, hd_cons]; simp [hk1], rfl⟩
    · have d1 : decide ((1 : Int) < (k : Int)) = false := by simp; omega
      go_wp2_with fail
      all_goals go_meet
      case rel => exact ⟨by simp [hk1], rfl⟩
  case rest =>
  obtain ⟨rfl, rfl⟩ := hcut
  cases hh : (decide (1 < k) && hd l1 48) with
  | true =>
    have EB : Hid (bad (Plain.split l) = (len : Int) - (len1 : Int) + 1) := by
      simp only [Bool.and_eq_true, decide_eq_true_eq] at hh
      rw [E1.out, W1.out hh.1 hh.2, ← WL.out]; show (((len - len1 + 1 : Nat)) : Int) = _; omega
    have k0 := hB2.c0
    have k1 := hB2.c1
    have k2 := hB2.c2
    have k3 := hB2.c3
    have k4 := hB2.c4
    have kf := hB2.fz
    clear hh
    go_wp2_with fail
    exact out_bad hB2 l _ _ EB.out rfl rfl
  | false =>
  have nn : ¬ (1 < k ∧ hd l1 48 = true) := by
    rintro ⟨x1, x2⟩
    rw [x2] at hh
    simp at hh
    omega
  have e2 : Plain.split l = Plain.frac len (l1.drop k) := E1.out.trans (W2.out hk0 nn)
  have E2 : Hid (Plain.split l = Plain.frac len (l1.drop k)) := e2
  clear e2 nn
  clear hh W0 W1 W2 HE hc hb c0 c1 H1 E1 WL
  go_upto_region 10 with fail
  have hle2 : len1 - k ≤ len := by omega
  have hlc2 : len1 - k ≤ cap1 - k := by omega
  have hc632 : cap1 - k ≤ 9223372036854775807 := by omega
  generalize adv (some ⟨b, off, none⟩) cap1 k = a2 at *
  generalize len1 - k = len2 at *
  generalize hc2 : cap1 - k = cap2 at *
  generalize l1.drop k = l2 at *
  clear hc2
  go_cut [60] (fun s60 wx => s60 = .bool (hd l2 46) ∧ we = wx)
  case first =>
    rcases H2.out.head with ⟨g0, e⟩ | ⟨c, t, b, off, e, ea, g0, hc, hb, c0, c1⟩
    · have d1 : decide (0 < len2) = false := by simp; omega
      subst e
      go_wp2_with fail
      go_meet
      case rel => exact ⟨rfl, rfl⟩
    · subst ea
      have HE : Hid _ := e
      have hc' := hB2.bel.cell (p := ⟨b, off, none⟩) hb
      rw [hc] at hc'
      clear e hc
      go_wp2_with fail
      all_goals go_meet
      case rel => exact ⟨by rw [HE.out, hd_cons], rfl⟩
  case rest =>
  obtain ⟨rfl, rfl⟩ := hcut
  go_upto_if 60 with fail
  go_cut [4] (fun s4 wx => ∃ a3 len3 cap3 l3 fa fn fc, s4 = .slice a3 len3 cap3 ∧ Sl w a3 len3 cap3 l3 ∧ Plain.split l = Plain.expo len l3 ∧ len3 ≤ len ∧ Bx w wx (.bool b0) (.bool false) (.slice (some ⟨b, off, none⟩) k cap1) (.slice fa fn fc) (.slice none 0 0))
  case first =>
    cases hh : hd l2 46 with
    | false =>
      have e3 : Plain.split l = Plain.expo len l2 := E2.out.trans (frac_no len l2 hh)
      have E3 : Hid _ := e3
      clear e3 hh
      go_wp2_with fail
      go_meet
      case rel => exact ⟨_, _, _, l2, _, _, _, rfl, H2.out, E3.out, hle2, hB2⟩
    | true =>
      have g1 : 1 ≤ len2 := by rw [H2.out.1]; exact hd_len hh
      have e3 := E2.out.trans (frac_yes len l2 hh)
      have E3 : Hid _ := e3
      clear e3 hh
      have s1 := run_one a2 len2 cap2 g1
      have H3 : Hid (Sl w (adv a2 cap2 1) (len2 - 1) (cap2 - 1) (l2.drop 1)) := H2.out.adv 1 g1
      go_wp2_with fail
      refine (digits_any _ _ _ (l2.drop 1) _ (H3.out.below hB2.bel)).mono ?_
      rintro e w' ⟨rfl, m2, rfl⟩
      have hB3 := hB2.drewN m2
      generalize we.drewN m2 = wf at hB3 ⊢
      have hcd3 : Plain.cd (l2.drop 1) ≤ len2 - 1 := by rw [H3.out.1]; exact Plain.cd_le _
      have H4 : Hid (Sl w (adv (adv a2 cap2 1) (cap2 - 1) (Plain.cd (l2.drop 1))) (len2 - 1 - Plain.cd (l2.drop 1)) (cap2 - 1 - Plain.cd (l2.drop 1)) ((l2.drop 1).drop (Plain.cd (l2.drop 1)))) := H3.out.adv _ hcd3
      have hle4 : len2 - 1 - Plain.cd (l2.drop 1) ≤ len := by omega
      generalize adv (adv a2 cap2 1) (cap2 - 1) (Plain.cd (l2.drop 1)) = a4 at *
      generalize len2 - 1 - Plain.cd (l2.drop 1) = len4 at *
      generalize cap2 - 1 - Plain.cd (l2.drop 1) = cap4 at *
      generalize (l2.drop 1).drop (Plain.cd (l2.drop 1)) = l4 at *
      generalize Plain.cd (l2.drop 1) = k3 at *
      have k0 := hB3.c0
      have k1 := hB3.c1
      have k2 := hB3.c2
      have k3' := hB3.c3
      have k4 := hB3.c4
      have kf := hB3.fz
      clear hB2 H3 s1 hcd3
      by_cases hk3 : k3 = 0
      · have t3 : ((k3 : Int) == 0) = true := by simp [hk3]
        have eb : bad (Plain.split l) = (len : Int) - (len4 : Int) := by
          have e := E3.out
          rw [if_pos hk3, ← H4.out.1] at e
          rw [bad_some e]; omega
        have EB : Hid _ := eb
        clear eb hk3
        go_wp2_with fail
        exact out_bad (hB3.s3 _) l _ _ EB.out rfl rfl
      · have t3 : ((k3 : Int) == 0) = false := beq_eq_false_iff_ne.2 (by omega)
        have e4 : Plain.split l = Plain.expo len l4 := by have e := E3.out; rw [if_neg hk3] at e; exact e
        have E4 : Hid _ := e4
        clear e4 hk3
        go_wp2_with fail
        go_meet
        case rel => exact ⟨_, _, _, l4, _, _, _, rfl, H4.out, E4.out, hle4, hB3.s3 _⟩
  case rest =>
  clear hB2 E2 H2 hle2 hlc2 hc632
  obtain ⟨a3, len3, cap3, l3, fa, fn, fc, rfl, h3, e3, hle3, hB3⟩ := hcut
  obtain ⟨wg, hwg⟩ : ∃ wg, wg = wc := ⟨_, rfl⟩
  subst hwg
  have H3 : Hid (Sl w a3 len3 cap3 l3) := h3
  have E3 : Hid _ := e3
  have hlc3 : len3 ≤ cap3 := h3.2.1
  have hc633 : cap3 ≤ 9223372036854775807 := h3.2.2.1
  clear h3 e3 we
  go_upto_region 14 with fail
  go_cut [92] (fun s92 wx => s92 = .bool (hd l3 101 || hd l3 69) ∧ wg = wx)
  case first =>
    rcases H3.out.head with ⟨g0, e⟩ | ⟨c, t, b, off, e, ea, g0, hc, hb, c0, c1⟩
    · have d1 : decide (0 < len3) = false := by simp; omega
      subst e
      go_wp2_with fail
      go_meet
      case rel => exact ⟨rfl, rfl⟩
    · subst ea
      have HE : Hid _ := e
      have hc' := hB3.bel.cell (p := ⟨b, off, none⟩) hb
      rw [hc] at hc'
      clear e hc
      by_cases hx : c = 101
      · have tx : ((c : Int) == 101) = true := by simp [hx]
        clear hx
        go_wp2_with fail
        all_goals go_meet
        case rel => exact ⟨by rw [HE.out, hd_cons, hd_cons, tx]; rfl, rfl⟩
      · have tx : ((c : Int) == 101) = false := beq_eq_false_iff_ne.2 hx
        clear hx
        go_wp2_with fail
        all_goals go_meet
        case rel => exact ⟨by rw [HE.out, hd_cons, hd_cons, tx]; rfl, rfl⟩
  case rest =>
  obtain ⟨rfl, rfl⟩ := hcut
  go_upto_if 92 with fail
  go_cut [4] (fun s4 wx => ∃ a7 len7 cap7 l7 b1 ga gn gc, s4 = .slice a7 len7 cap7 ∧ Sl w a7 len7 cap7 l7 ∧ Plain.split l = Plain.tail2 len l7 ∧ len7 ≤ len ∧ Bx w wx (.bool b0) (.bool b1) (.slice (some ⟨b, off, none⟩) k cap1) (.slice fa fn fc) (.slice ga gn gc))
  case first =>
    cases hh : (hd l3 101 || hd l3 69) with
    | false =>
      have e4 : Plain.split l = Plain.tail2 len l3 := E3.out.trans (expo_no len l3 hh)
      have E4 : Hid _ := e4
      clear e4 hh
      go_wp2_with fail
      go_meet
      case rel => exact ⟨_, _, _, l3, false, _, _, _, rfl, H3.out, E4.out, hle3, hB3⟩
    | true =>
      have g1 : 1 ≤ len3 := by rw [H3.out.1]; exact hd2_len hh
      have e5 := E3.out.trans (expo_yes len l3 hh)
      have s1 := run_one a3 len3 cap3 g1
      have h5 := H3.out.adv 1 g1
      have hle5 : len3 - 1 ≤ len := by omega
      have E5 : Hid (Plain.split l = Plain.sgn len (l3.drop 1)) := e5
      have H5 : Hid (Sl w (adv a3 cap3 1) (len3 - 1) (cap3 - 1) (l3.drop 1)) := h5
      clear e5 hh h5
      go_upto_region 16 with fail
      clear s1
      have hlc5 : len3 - 1 ≤ cap3 - 1 := by omega
      have hc635 : cap3 - 1 ≤ 9223372036854775807 := by omega
      generalize adv a3 cap3 1 = a5 at *
      generalize len3 - 1 = len5 at *
      generalize hc5 : cap3 - 1 = cap5 at *
      generalize l3.drop 1 = l5 at *
      clear hc5
      go_cut [109] (fun s109 wx => s109 = .bool (hd l5 43 || hd l5 45) ∧ wg = wx)
      case first =>
        rcases H5.out.head with ⟨g0, e⟩ | ⟨c, t, b, off, e, ea, g0, hc, hb, c0, c1⟩
        · have d1 : decide (0 < len5) = false := by simp; omega
          subst e
          go_wp2_with fail
          go_meet
          case rel => exact ⟨rfl, rfl⟩
        · subst ea
          have HE : Hid _ := e
          have hc' := hB3.bel.cell (p := ⟨b, off, none⟩) hb
          rw [hc] at hc'
          clear e hc
          by_cases hx : c = 43
          · have tx : ((c : Int) == 43) = true := by simp [hx]
            clear hx
            go_wp2_with fail
            all_goals go_meet
            case rel => exact ⟨by rw [HE.out, hd_cons, hd_cons, tx]; rfl, rfl⟩
          · have tx : ((c : Int) == 43) = false := beq_eq_false_iff_ne.2 hx
            clear hx
            go_wp2_with fail
            all_goals go_meet
            case rel => exact ⟨by rw [HE.out, hd_cons, hd_cons, tx]; rfl, rfl⟩
      case rest =>
      obtain ⟨rfl, rfl⟩ := hcut
      go_upto_if 109 with fail
      go_cut [4] (fun s4 wx => ∃ a6 len6 cap6 l6 b1, s4 = .slice a6 len6 cap6 ∧ Sl w a6 len6 cap6 l6 ∧ Plain.split l = Plain.expD len l6 ∧ len6 ≤ len ∧ Bx w wx (.bool b0) (.bool b1) (.slice (some ⟨b, off, none⟩) k cap1) (.slice fa fn fc) (.slice none 0 0))
      case first =>
        cases hh : (hd l5 43 || hd l5 45) with
        | false =>
          have e6 : Plain.split l = Plain.expD len l5 := E5.out.trans (sgn_no len l5 hh)
          have E6 : Hid _ := e6
          clear e6 hh
          go_wp2_with fail
          go_meet
          case rel => exact ⟨_, _, _, l5, false, rfl, H5.out, E6.out, hle5, hB3⟩
        | true =>
          have g1 : 1 ≤ len5 := by rw [H5.out.1]; exact hd2_len hh
          have e6 := E5.out.trans (sgn_yes len l5 hh)
          have E6 : Hid (Plain.split l = Plain.expD len (l5.drop 1)) := e6
          obtain ⟨c, t, b', off', _, ea, g0, hc, hb, c0, c1⟩ : ∃ c t b off, l5 = c :: t ∧ a5 = some ⟨b, off, none⟩ ∧ 0 < len5 ∧ w.cell? ⟨b, off, none⟩ = some (.int .u8 c) ∧ b < w.heap.size ∧ 0 ≤ c ∧ c ≤ 255 := by
            rcases H5.out.head with ⟨h0, _⟩ | hh
            · omega
            · exact hh
          subst ea
          have hc' := hB3.bel.cell (p := ⟨b', off', none⟩) hb
          rw [hc] at hc'
          have s1 := run_one (some ⟨b', off', none⟩) len5 cap5 g1
          have k1 := hB3.c1
          have kf := hB3.fz
          clear e6 hh hc
          go_wp2_with fail
          go_region
          go_wp2_with fail
          go_meet
          case rel => exact ⟨_, _, _, _, _, rfl, H5.out.adv 1 g1, E6.out, by omega, (hB3.s1 _).drew⟩
      case rest =>
      clear hB3 E5 H5 hle5 hlc5 hc635
      obtain ⟨a6, len6, cap6, l6, b1, rfl, h6, e6, hle6, hB6⟩ := hcut
      obtain ⟨wh, hwh⟩ : ∃ wh, wh = wc := ⟨_, rfl⟩
      subst hwh
      have H6 : Hid (Sl w a6 len6 cap6 l6) := h6
      have E6 : Hid _ := e6
      have hlc6 : len6 ≤ cap6 := h6.2.1
      have hc636 : cap6 ≤ 9223372036854775807 := h6.2.2.1
      clear h6 e6 wg
      go_wp2_with fail
      refine (digits_any a6 len6 cap6 l6 _ (H6.out.below hB6.bel)).mono ?_
      rintro e w' ⟨rfl, m6, rfl⟩
      have hB7 := hB6.drewN m6
      generalize wh.drewN m6 = wi at hB7 ⊢
      have hcd6 : Plain.cd l6 ≤ len6 := by rw [H6.out.1]; exact Plain.cd_le _
      have H7 : Hid (Sl w (adv a6 cap6 (Plain.cd l6)) (len6 - Plain.cd l6) (cap6 - Plain.cd l6) (l6.drop (Plain.cd l6))) := H6.out.adv _ hcd6
      have hle7 : len6 - Plain.cd l6 ≤ len := by omega
      have E7 : Hid (Plain.split l = if Plain.cd l6 = 0 then some (len - (l6.drop (Plain.cd l6)).length) else Plain.tail2 len (l6.drop (Plain.cd l6))) := E6.out
      generalize adv a6 cap6 (Plain.cd l6) = a7 at *
      generalize len6 - Plain.cd l6 = len7 at *
      generalize cap6 - Plain.cd l6 = cap7 at *
      generalize l6.drop (Plain.cd l6) = l7 at *
      generalize Plain.cd l6 = k6 at *
      have k0 := hB7.c0
      have k1 := hB7.c1
      have k2 := hB7.c2
      have k3' := hB7.c3
      have k4 := hB7.c4
      have kf := hB7.fz
      clear hB6 H6 hcd6 E6
      by_cases hk6 : k6 = 0
      · have t3 : ((k6 : Int) == 0) = true := by simp [hk6]
        have eb : bad (Plain.split l) = (len : Int) - (len7 : Int) := by
          have e := E7.out
          rw [if_pos hk6, ← H7.out.1] at e
          rw [bad_some e]; omega
        have EB : Hid _ := eb
        clear eb hk6
        go_wp2_with fail
        exact out_bad (hB7.s4 _) l _ _ EB.out rfl rfl
      · have t3 : ((k6 : Int) == 0) = false := beq_eq_false_iff_ne.2 (by omega)
        have e8 : Plain.split l = Plain.tail2 len l7 := by have e := E7.out; rw [if_neg hk6] at e; exact e
        have E8 : Hid _ := e8
        clear e8 hk6
        go_wp2_with fail
        go_meet
        case rel => exact ⟨_, _, _, l7, _, _, _, _, rfl, H7.out, E8.out, hle7, hB7.s4 _⟩
  case rest =>
  clear hB3 E3 H3 hle3 hlc3 hc633
  obtain ⟨a7, len7, cap7, l7, b1, ga, gn, gc, rfl, h7, e7, hle7, hB7⟩ := hcut
  have H7 : Hid (Sl w a7 len7 cap7 l7) := h7
  have E7 : Hid _ := e7
  clear h7 e7
  have k0 := hB7.c0
  have k1 := hB7.c1
  have k2 := hB7.c2
  have k3' := hB7.c3
  have k4 := hB7.c4
  have kf := hB7.fz
  by_cases h0' : 0 < len7
  · have eb : bad (Plain.split l) = (len : Int) - (len7 : Int) := by
      have e := E7.out
      rw [tail2_cons len l7 (by rw [← H7.out.1]; exact h0'), ← H7.out.1] at e
      rw [bad_some e]; omega
    have EB : Hid _ := eb
    clear eb
    go_wp2_with fail
    exact out_bad hB7 l _ _ EB.out rfl rfl
  · have eb : bad (Plain.split l) = -1 := by
      have e := E7.out
      rw [tail2_nil len l7 (by rw [← H7.out.1]; omega)] at e
      rw [e]; rfl
    have EB : Hid _ := eb
    clear eb
    have d0 : decide (0 < len7) = false := by simp; omega
    go_wp2_with fail
    exact out_good hB7 l _ EB.out rfl rfl
end Go.Proofs.Qxb6628662a
