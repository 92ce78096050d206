import Derived.Test.Qxb6628662aLawA
namespace Go.Proofs.Qxb6628662a
open Go.RowKit

theorem bytesB_small (a : Option Addr) (len cap : Nat) (w : World) (h : len ≤ 1048576) : Calls Try.prog 8 #[.slice a len cap] w fun e w' => e = .returned (.bool true) ∧ w' = w := by
  go_enter Try.func8, Try.ntmps8
  go_wp2
  go_ret
  exact ⟨rfl, rfl⟩
theorem bytesB_large (a : Option Addr) (len cap : Nat) (w : World) (h : 1048576 < len) : Calls Try.prog 8 #[.slice a len cap] w fun e w' => e = .returned (.bool false) ∧ w' = w := by
  go_enter Try.func8, Try.ntmps8
  go_wp2
  all_goals go_ret
  all_goals exact ⟨rfl, rfl⟩

/-- what holds at the head of round k of the law's own loop: neg holds the sign and the first k bytes -/
def Neg (wg : World) (n : Nat) (l : List Int) (k : Nat) (wr : World) : Prop :=
  Below wg.heap.size wg wr ∧ ∃ cur : List Value, wr.heap[wg.heap.size]? = some (.cells cur.toArray 5 (0, 0)) ∧ cur.length = n + 1 ∧ cur.take (k + 1) = cellsL (45 :: l.take k)
theorem Neg.cell {wg wr : World} {n k : Nat} {l : List Int} (h : Neg wg n l k wr) (j : Nat) (hj : j < n + 1) : ∃ v, wr.cell? ⟨wg.heap.size, j, none⟩ = some v := by
  obtain ⟨_, cur, hg, hl, _⟩ := h
  rw [cell_of_row wr _ j _ 5 (0, 0) hg]
  exact ⟨cur[j]'(by omega), by simp [hl, hj]⟩
theorem Neg.fz {wg wr : World} {n k : Nat} {l : List Int} (h : Neg wg n l k wr) (j : Nat) : wr.frozen? ⟨wg.heap.size, j, none⟩ = false := by
  obtain ⟨_, cur, hg, _, _⟩ := h
  exact frozen_of_row wr _ j _ 5 hg
theorem Neg.next {wg wr : World} {n k : Nat} {l : List Int} (h : Neg wg n l k wr) (hn : n = l.length) (hk : k < n) : Neg wg n l (k + 1) (wr.setCell ⟨wg.heap.size, k + 1, none⟩ (.int .u8 (l.getD k 0))) := by
  obtain ⟨hb, cur, hg, hl, ht⟩ := h
  refine ⟨hb.setCell (Nat.le_refl _) _, cur.set (k + 1) (.int .u8 (l.getD k 0)), ?_, by simp [hl], ?_⟩
  · rw [heap_setCell_same wr _ (k + 1) _ 5 _ hg]; simp
  · have hkl : k < l.length := by omega
    rw [List.take_succ_eq_append_getElem (by simp [hl]; omega)]
    have e2 : l.take (k + 1) = l.take k ++ [l.getD k 0] := by rw [List.take_succ_eq_append_getElem hkl]; simp [List.getD, hkl]
    rw [List.take_set_of_le (by omega), ht, e2, List.getElem_set_self]
    simp [cellsL]
theorem Neg.start {wg w1 : World} {n : Nat} {l : List Int} {cur : List Value} (hb : Below wg.heap.size wg w1) (hg : w1.heap[wg.heap.size]? = some (.cells cur.toArray 5 (0, 0))) (hl : cur.length = n + 1) : Neg wg n l 0 (w1.setCell ⟨wg.heap.size, 0, none⟩ (.int .u8 45)) := by
  refine ⟨hb.setCell (Nat.le_refl _) _, cur.set 0 (.int .u8 45), ?_, by simp [hl], ?_⟩
  · rw [heap_setCell_same w1 _ 0 _ 5 _ hg]; simp
  · cases cur with
    | nil => simp at hl
    | cons c t => simp [cellsL]
theorem Neg.done {wg wr : World} {n : Nat} {l : List Int} (h : Neg wg n l n wr) (hn : n = l.length) (hm : n ≤ 1048576) (hb : ∀ c ∈ l, 0 ≤ c ∧ c ≤ 255) : Sl wr (some ⟨wg.heap.size, 0, none⟩) (n + 1) (n + 1) (45 :: l) := by
  obtain ⟨_, cur, hg, hl, ht⟩ := h
  have e : cur = cellsL (45 :: l) := by
    rw [List.take_of_length_le (by omega), hn, List.take_length] at ht
    exact ht
  rw [e] at hg
  refine Sl.row (by simp [hn]) (by omega) (fun c hc => ?_) hg
  rcases List.mem_cons.1 hc with rfl | h
  · omega
  · exact hb c h

theorem minus_none (l : List Int) (h : hd l 45 = false) (ho : Plain.split l = none) : Plain.split (45 :: l) = none := by
  rw [Plain.split_minus l (by intro e; simp [hd, e] at h), ho]; rfl
theorem minus_some (l : List Int) (i : Nat) (h : hd l 45 = false) (ho : Plain.split l = some i) : Plain.split (45 :: l) = some (i + 1) := by
  rw [Plain.split_minus l (by intro e; simp [hd, e] at h), ho]; rfl
theorem vAt_succ (i : Nat) : vAt (some (i + 1)) = (i : Int) + 1 := by show (((i + 1 : Nat)) : Int) = _; omega
theorem dig_none (l : List Int) (h : ∀ c ∈ l, Plain.isD c = true) (ho : Plain.split l = none) : l.length ≠ 0 ∧ ¬ (1 < l.length ∧ hd l 48 = true) := by
  have hs := Plain.split_digits l h
  rw [ho] at hs
  by_cases h0 : l.length = 0
  · rw [if_pos h0] at hs; cases hs
  · refine ⟨h0, fun ⟨x1, x2⟩ => ?_⟩
    rw [if_neg h0, if_pos ⟨x1, by simpa [hd] using x2⟩] at hs; cases hs
theorem dig_some (l : List Int) (i : Nat) (h : ∀ c ∈ l, Plain.isD c = true) (ho : Plain.split l = some i) : (l.length = 0 ∧ i = 0) ∨ (1 < l.length ∧ hd l 48 = true ∧ i = 1) := by
  have hs := Plain.split_digits l h
  rw [ho] at hs
  by_cases h0 : l.length = 0
  · rw [if_pos h0] at hs; left; exact ⟨h0, by simpa using hs⟩
  · rw [if_neg h0] at hs
    by_cases h1 : 1 < l.length ∧ l.head? = some 48
    · rw [if_pos h1] at hs; right; exact ⟨h1.1, by simp [hd, h1.2], by simpa using hs⟩
    · rw [if_neg h1] at hs; cases hs

theorem all_true {l : List Int} (h : l.all Plain.isD = true) : ∀ c ∈ l, Plain.isD c = true := List.all_eq_true.1 h

set_option maxRecDepth 100000 in
set_option maxHeartbeats 4000000 in
theorem lawB (a : Option Addr) (len cap : Nat) (l : List Int) (w : World) (h : Sl w a len cap l) :
    Calls Try.prog 4 #[.slice a len cap] w fun e w' => e = .returned (.bool true) ∧ Below w.heap.size w w' := by
  by_cases hsm : len ≤ 1048576
  · have H : Hid (Sl w a len cap l) := h
    have hlc : len ≤ cap := h.2.1
    have hc63 : cap ≤ 9223372036854775807 := h.2.2.1
    clear h
    obtain ⟨i0, hi, hz0, hz1, hz2⟩ := info5
    have HI : Hid _ := hi
    clear hi
    go_enter Try.func4, Try.ntmps4
    go_upto_region 5 with (go_at_call 8; refine (bytesB_small _ _ _ _ hsm).mono ?_; rintro e w0 ⟨rfl, rfl⟩)
    go_cut [24] (fun s24 wx => s24 = .bool (hd l 45) ∧ w0 = wx)
    case first =>
      rcases H.out.head with ⟨h0, e⟩ | ⟨c, t, b, off, e, ea, h0, hc, hb, c0, c1⟩
      · have d1 : decide (0 < len) = false := by simp; omega
        subst e
        go_wp2_with fail
        go_meet
        case rel => exact ⟨rfl, rfl⟩
      · subst ea
        have HE : Hid _ := e
        clear e
        go_wp2_with fail
        all_goals go_meet
        case rel => exact ⟨by rw [HE.out, hd_cons], rfl⟩
    case rest =>
    obtain ⟨rfl, rfl⟩ := hcut
    cases hh : hd l 45 with
    | true =>
      go_wp2_with fail
      go_ret
      exact ⟨rfl, Below.refl _ _⟩
    | false =>
    have HH : Hid _ := hh
    clear hh
    go_upto_if 26 with fail
    go_cut [0] (fun s0 wx => ∃ a1 len1 cap1, s0 = .slice a1 len1 cap1 ∧ Sl wx a1 len1 cap1 l ∧ Below w0.heap.size w0 wx)
    case first =>
      cases a with
      | none =>
        go_wp2_with fail
        go_meet
        case rel => exact ⟨none, len, cap, rfl, H.out, Below.refl _ _⟩
      | some x =>
        go_wp2_with (first
          | (at_make; refine wpList_make_full _ rfl _ _ 22 rfl w0.heap.size 5 i0 (.int .u8 0) 1 Try.underlying22 HI.out hz0 hz1 _ _ _ _ len rfl rfl rfl rfl ?b2 ?b3 ?b4 ?_; (case b2 => rw [hz2]; omega); (case b3 => unfold maxLen; omega); (case b4 => exact Nat.le_refl _); intro w1 o1 g1; have b1 : Below w0.heap.size w0 w1 := (Below.refl _ _).grown g1 (Nat.le_refl _) (fun _ h => by cases h); clear g1; obtain ⟨cur, hg, hcs⟩ := own_row o1; have HG : Hid _ := hg; have HCS : Hid _ := hcs; clear o1 hg hcs)
          | (refine wpList_copy_splice rfl (.tmp 30) (.tmp 31) 22 22 rfl 5 Try.underlying22 size5 _ _ _ _ _ _ rfl rfl w0.heap.size 0 cur 5 HG.out (cellsL l) ?n ?pos ?fit (cellsL_one l) w0.heap.size w0 b1 (Nat.le_refl _) ?_; (case n => rw [cellsL_length, ← H.out.1]; exact (Nat.min_self len).symm); (case pos => intro hp; rw [cellsL_length, ← H.out.1] at hp; exact ⟨rfl, (H.out.below b1).src hp⟩); (case fit => rw [cellsL_length, ← H.out.1, HCS.out]; omega); intro w2 HG2 hB2))
        go_meet
        case rel =>
          have hg2 := HG2.out
          rw [splice_all cur (cellsL l) (by rw [HCS.out, cellsL_length]; exact H.out.1)] at hg2
          exact ⟨_, _, _, rfl, Sl.row H.out.1 (by omega) H.out.2.2.2.1 hg2, hB2⟩
    case rest =>
    obtain ⟨a1, len1, cap1, rfl, h1, hB1⟩ := hcut
    obtain ⟨wg, hwg⟩ : ∃ wg, wg = wc := ⟨_, rfl⟩
    subst hwg
    have H1 : Hid (Sl wg a1 len1 cap1 l) := h1
    have hlc1 : len1 ≤ cap1 := h1.2.1
    have hc631 : cap1 ≤ 9223372036854775807 := h1.2.2.1
    have hsm1 : len1 ≤ 1048576 := by rw [h1.1, ← H.out.1]; exact hsm
    clear h1 H hlc hc63 hsm
    go_wp2_with (first
      | (at_make; refine wpList_make_full _ rfl _ _ 22 rfl wg.heap.size 5 i0 (.int .u8 0) 1 Try.underlying22 HI.out hz0 hz1 _ _ _ _ (len1 + 1) rfl rfl ?b0 ?b1 ?b2 ?b3 ?b4 ?_; (case b0 => omega); (case b1 => omega); (case b2 => rw [hz2]; omega); (case b3 => unfold maxLen; omega); (case b4 => exact Nat.le_refl _); intro w1 o1 g1; have b1 : Below wg.heap.size wg w1 := (Below.refl _ _).grown g1 (Nat.le_refl _) (fun _ h => by cases h); clear g1; obtain ⟨cur, hg, hcs⟩ := own_row o1; have HG : Hid _ := hg; have HCS : Hid _ := hcs; clear o1; have hfz := frozen_of_row w1 wg.heap.size 0 _ 5 hg; obtain ⟨v0, hv0⟩ : ∃ v0, w1.cell? ⟨wg.heap.size, 0, none⟩ = some v0 := ⟨cur[0]'(by omega), by rw [cell_of_row w1 _ 0 _ 5 (0, 0) hg]; simp⟩; clear hg hcs))
    have hN : Neg wg len1 l 0 (w1.setCell ⟨wg.heap.size, 0, none⟩ (.int .u8 45)) := Neg.start b1 HG.out HCS.out
    generalize w1.setCell ⟨wg.heap.size, 0, none⟩ (.int .u8 45) = wn at hN ⊢
    clear b1 HG HCS hfz hv0 w1
    go_loopw [5] (fun t wx => ∃ k : Nat, k ≤ len1 ∧ t = .int .i64 k ∧ Neg wg len1 l k wx) (fun t _ => len1 - (intOf t).toNat)
    case atStart => exact ⟨0, by omega, rfl, hN⟩
    case round =>
      obtain ⟨k, hk, rfl, hR⟩ := hrel
      by_cases hlt : k < len1
      · obtain ⟨b, off, e, hck, hbk, v0', v1'⟩ := H1.out.cell k hlt
        subst e
        have hck' := hR.1.cell (p := ⟨b, off + k, none⟩) hbk
        rw [hck] at hck'
        obtain ⟨vo, hvo⟩ := hR.cell (k + 1) (by omega)
        have hfk := hR.fz (k + 1)
        have hX := hR.next H1.out.1 hlt
        have HX : Hid (Neg wg len1 l (k + 1) (wr.setCell ⟨wg.heap.size, k + 1, none⟩ (.int .u8 (l.getD k 0)))) := hX
        clear hX hck
        generalize l.getD k 0 = v at *
        go_wp2_with fail
        go_roundw
        case rel => exact ⟨k + 1, by omega, by go_num, HX.out⟩
        case measure => simp [intOf]; omega
      · have hke : k = len1 := by omega
        subst hke
        have hS := hR.done H1.out.1 hsm1 H1.out.2.2.2.1
        have H2 : Hid (Sl wr (some ⟨wg.heap.size, 0, none⟩) (k + 1) (k + 1) (45 :: l)) := hS
        have H3 : Hid (Sl wr a1 k cap1 l) := H1.out.below hR.1
        have hB2 : Below w0.heap.size w0 wr := hB1.trans (hR.1.mono hB1.size)
        clear hS hR
        go_wp2_with fail
        refine (valid_any a1 k cap1 l _ H3.out).mono ?_
        rintro e w5 ⟨rfl, hb⟩
        have H4 : Hid (Sl w5 (some ⟨wg.heap.size, 0, none⟩) (k + 1) (k + 1) (45 :: l)) := H2.out.below hb
        have H5 : Hid (Sl w5 a1 k cap1 l) := H3.out.below hb
        have hB3 : Below w0.heap.size w0 w5 := hB2.trans (hb.mono hB2.size)
        clear hb H2 H3 hB2
        cases ho : Plain.split l with
        | none =>
          have m1 := minus_none l HH.out ho
          have M1 : Hid _ := m1
          have HO : Hid _ := ho
          clear ho m1
          simp only [vAt_none, vOk_none]
          go_wp2_with fail
          refine (valid_any _ _ _ (45 :: l) _ H4.out).mono ?_
          rw [M1.out, vAt_none, vOk_none]
          rintro e w6 ⟨rfl, hb⟩
          have H6 : Hid (Sl w6 a1 k cap1 l) := H5.out.below hb
          have hB4 : Below w0.heap.size w0 w6 := hB3.trans (hb.mono hB3.size)
          clear hb H4 H5 hB3
          go_wp2_with fail
          refine (all_any a1 k cap1 l _ H6.out).mono ?_
          cases hall : l.all Plain.isD with
          | false =>
            rintro e w7 ⟨rfl, rfl⟩
            go_wp2_with fail
            go_ret
            exact ⟨rfl, hB4⟩
          | true =>
            obtain ⟨n0, n1⟩ := dig_none l (all_true hall) HO.out
            rw [← H6.out.1] at n0 n1
            have t0 : ((k : Int) == 0) = false := beq_eq_false_iff_ne.2 (by omega)
            have N1 : Hid _ := n1
            clear hall n1
            rintro e w7 ⟨rfl, rfl⟩
            by_cases hk1 : 1 < k
            · obtain ⟨c, t, b, off, e, ea, g0, hc, hb, c0, c1⟩ : ∃ c t b off, l = c :: t ∧ a1 = some ⟨b, off, none⟩ ∧ 0 < k ∧ w7.cell? ⟨b, off, none⟩ = some (.int .u8 c) ∧ b < w7.heap.size ∧ 0 ≤ c ∧ c ≤ 255 := by
                rcases H6.out.head with ⟨h0, _⟩ | hh
                · omega
                · exact hh
              have tc : ((c : Int) == 48) = false := by
                have := N1.out
                rw [e, hd_cons] at this
                cases hcc : ((c : Int) == 48) with
                | false => rfl
                | true => exact absurd ⟨hk1, hcc⟩ this
              subst ea
              clear e
              go_wp2_with fail
              go_ret
              exact ⟨rfl, hB4⟩
            · have d1 : decide ((1 : Int) < (k : Int)) = false := by simp; omega
              go_wp2_with fail
              go_ret
              exact ⟨rfl, hB4⟩
        | some i =>
          have m1 := minus_some l i HH.out ho
          have M1 : Hid _ := m1
          have HO : Hid _ := ho
          clear ho m1
          simp only [vAt_some, vOk_some]
          have ne1 : ((i : Int) + 1 != (i : Int) + 1) = false := by simp
          have hi1 : i ≤ k := by rw [H5.out.1]; exact Plain.split_le l i HO.out
          go_wp2_with fail
          refine (valid_any _ _ _ (45 :: l) _ H4.out).mono ?_
          rw [M1.out, vAt_succ, vOk_some]
          rintro e w6 ⟨rfl, hb⟩
          have H6 : Hid (Sl w6 a1 k cap1 l) := H5.out.below hb
          have hB4 : Below w0.heap.size w0 w6 := hB3.trans (hb.mono hB3.size)
          clear hb H4 H5 hB3
          go_wp2_with fail
          refine (all_any a1 k cap1 l _ H6.out).mono ?_
          cases hall : l.all Plain.isD with
          | false =>
            rintro e w7 ⟨rfl, rfl⟩
            go_wp2_with fail
            go_ret
            exact ⟨rfl, hB4⟩
          | true =>
            have n1 := dig_some l i (all_true hall) HO.out
            rw [← H6.out.1] at n1
            clear hall
            rintro e w7 ⟨rfl, rfl⟩
            rcases n1 with ⟨k0, i0'⟩ | ⟨hk1, h48, i1⟩
            · have t0 : ((k : Int) == 0) = true := by simp [k0]
              have t1 : ((i : Int) == 0) = true := by simp [i0']
              clear k0 i0'
              go_wp2_with fail
              go_ret
              exact ⟨rfl, hB4⟩
            · have t0 : ((k : Int) == 0) = false := beq_eq_false_iff_ne.2 (by omega)
              have t1 : ((i : Int) == 1) = true := by simp [i1]
              obtain ⟨c, t, b, off, e, ea, g0, hc, hb, c0, c1⟩ : ∃ c t b off, l = c :: t ∧ a1 = some ⟨b, off, none⟩ ∧ 0 < k ∧ w7.cell? ⟨b, off, none⟩ = some (.int .u8 c) ∧ b < w7.heap.size ∧ 0 ≤ c ∧ c ≤ 255 := by
                rcases H6.out.head with ⟨h0, _⟩ | hh
                · omega
                · exact hh
              have tc : ((c : Int) == 48) = true := by rw [e, hd_cons] at h48; exact h48
              subst ea
              clear e h48 i1
              go_wp2_with fail
              go_ret
              exact ⟨rfl, hB4⟩
  · go_enter Try.func4, Try.ntmps4
    go_wp2_with (go_at_call 8; refine (bytesB_large _ _ _ _ (by omega)).mono ?_; rintro e w' ⟨rfl, rfl⟩)
    go_ret
    exact ⟨rfl, Below.refl _ _⟩
end Go.Proofs.Qxb6628662a
