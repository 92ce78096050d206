import Derived.Test.Qxb6628662aValid
import Derived.Laws.CopyOwn
namespace Go.Proofs.Qxb6628662a
open Go.RowKit

theorem bytesA_small (a : Option Addr) (len cap : Nat) (w : World) (h : len ≤ 1048576) : Calls Try.prog 5 #[.slice a len cap] w fun e w' => e = .returned (.bool true) ∧ w' = w := by
  go_enter Try.func5, Try.ntmps5
  go_wp2
  go_ret
  exact ⟨rfl, rfl⟩
theorem bytesA_large (a : Option Addr) (len cap : Nat) (w : World) (h : 1048576 < len) : Calls Try.prog 5 #[.slice a len cap] w fun e w' => e = .returned (.bool false) ∧ w' = w := by
  go_enter Try.func5, Try.ntmps5
  go_wp2
  all_goals go_ret
  all_goals exact ⟨rfl, rfl⟩

theorem info5 : ∃ i, Try.prog.info? 5 = some i ∧ i.zero = some (.int .u8 0) ∧ i.size = 1 ∧ i.bytes = 1 := info_parts (by kernel_rfl)
theorem size5 : (Try.prog.info? 5).map (·.size) = some 1 := by kernel_rfl

/-- the cells of the numbers l -/
def cellsL (l : List Int) : List Value := l.map (Value.int .u8)
theorem cellsL_length (l : List Int) : (cellsL l).length = l.length := by simp [cellsL]
theorem cellsL_one (l : List Int) : ∀ v ∈ cellsL l, v.oneCell' = true := by
  intro v hv
  obtain ⟨x, _, rfl⟩ := List.mem_map.1 hv
  rfl
/-- where a source has elements: its address, and its cells -/
theorem Sl.src {w : World} {a : Option Addr} {len cap : Nat} {l : List Int} (h : Sl w a len cap l) (h0 : 0 < len) : ∃ ad, a = some ad ∧ ∀ j v, (cellsL l)[j]? = some v → w.cell? (ad.add j) = some v := by
  obtain ⟨h1, _, _, _, h5⟩ := h
  obtain ⟨b, off, e, hc⟩ := h5 h0
  refine ⟨⟨b, off, none⟩, e, fun j v hv => ?_⟩
  have hj : j < l.length := by
    have := (List.getElem?_eq_some_iff.1 hv).1
    simpa [cellsL] using this
  have hval : v = .int .u8 (l.getD j 0) := by
    simp [cellsL, hj] at hv
    rw [← hv]
    simp [List.getD, hj]
  rw [hval]
  have hadd : (⟨b, off, none⟩ : Addr).add j = ⟨b, off + j, none⟩ := by unfold Addr.add; split <;> simp_all
  rw [hadd]
  exact hc j (by omega)
/-- a row that holds the numbers l -/
theorem Sl.row {w : World} {g len : Nat} {l : List Int} (hl : len = l.length) (hm : len ≤ 9223372036854775807) (hb : ∀ c ∈ l, 0 ≤ c ∧ c ≤ 255) (hg : w.heap[g]? = some (.cells (cellsL l).toArray 5 (0, 0))) : Sl w (some ⟨g, 0, none⟩) len len l := by
  refine ⟨hl, Nat.le_refl _, hm, hb, fun _ => ⟨g, 0, rfl, fun i hi => ?_⟩⟩
  rw [cell_of_row w g (0 + i) _ 5 (0, 0) hg]
  have : i < l.length := by omega
  simp [cellsL, List.getD, this]
theorem splice_all (L cs : List Value) (h : L.length = cs.length) : splice L 0 cs = cs := by
  unfold splice
  rw [List.take_zero, List.nil_append, Nat.zero_add, List.drop_of_length_le (by omega), List.append_nil]

theorem vAt_none : vAt none = 0 := rfl
theorem vOk_none : vOk none = true := rfl
theorem vAt_some (i : Nat) : vAt (some i) = (i : Int) := rfl
theorem vOk_some (i : Nat) : vOk (some i) = false := rfl

theorem own_row {w : World} {B e g n c : Nat} {xs : List Value} (h : w.ownsRow B e 1 (.slice (some ⟨g, 0, none⟩) n c) n xs) : ∃ cur : List Value, w.heap[g]? = some (.cells cur.toArray e (0, 0)) ∧ cur.length = c := by
  rcases h.2 with ⟨h1, _⟩ | ⟨g', c', cur, e1, _, hg, _, _, hcs, _⟩
  · cases h1
  · cases e1
    exact ⟨cur.toList, by simpa using hg, by simpa using hcs⟩

set_option maxRecDepth 100000 in
set_option maxHeartbeats 1000000 in
theorem lawA (a : Option Addr) (len cap : Nat) (l : List Int) (w : World) (h : Sl w a len cap l) (hn : a = none → len = 0 ∧ cap = 0) :
    Calls Try.prog 3 #[.slice a len cap] w fun e w' => e = .returned (.bool true) ∧ Below w.heap.size w w' := by
  by_cases hsm : len ≤ 1048576
  · have H : Hid (Sl w a len cap l) := h
    have HN : Hid _ := hn
    have hlc : len ≤ cap := h.2.1
    have hc63 : cap ≤ 9223372036854775807 := h.2.2.1
    clear h hn
    obtain ⟨i0, hi, hz0, hz1, hz2⟩ := info5
    have HI : Hid _ := hi
    clear hi
    go_enter Try.func3, Try.ntmps3
    go_upto_if 17 with (go_at_call 5; refine (bytesA_small _ _ _ _ hsm).mono ?_; rintro e w0 ⟨rfl, rfl⟩)
    go_cut [0] (fun s0 wx => ∃ a1 len1 cap1, s0 = .slice a1 len1 cap1 ∧ Sl wx a1 len1 cap1 l ∧ Below w0.heap.size w0 wx)
    case first =>
      cases a with
      | none =>
        go_wp2_with fail
        go_meet
        case rel => exact ⟨none, len, cap, rfl, H.out, Below.refl _ _⟩
      | some x =>
        go_wp2_with (first
          | (at_make; refine wpList_make_full _ rfl _ _ 22 rfl w0.heap.size 5 i0 (.int .u8 0) 1 Try.underlying22 HI.out hz0 hz1 _ _ _ _ len rfl rfl rfl rfl ?b2 ?b3 ?b4 ?_; (case b2 => rw [hz2]; omega); (case b3 => unfold maxLen; omega); (case b4 => exact Nat.le_refl _); intro w1 o1 g1; have b1 : Below w0.heap.size w0 w1 := (Below.refl _ _).grown g1 (Nat.le_refl _) (fun _ h => by cases h); clear g1; obtain ⟨cur, hg, hcs⟩ := own_row o1; have HG : Hid _ := hg; have HCS : Hid _ := hcs; clear o1 hg hcs)
          | (refine wpList_copy_splice rfl (.tmp 21) (.tmp 22) 22 22 rfl 5 Try.underlying22 size5 _ _ _ _ _ _ rfl rfl w0.heap.size 0 cur 5 HG.out (cellsL l) ?n ?pos ?fit (cellsL_one l) w0.heap.size w0 b1 (Nat.le_refl _) ?_; (case n => rw [cellsL_length, ← H.out.1]; exact (Nat.min_self len).symm); (case pos => intro hp; rw [cellsL_length, ← H.out.1] at hp; exact ⟨rfl, (H.out.below b1).src hp⟩); (case fit => rw [cellsL_length, ← H.out.1, HCS.out]; omega); intro w2 HG2 hB2))
        go_meet
        case rel =>
          have hg2 := HG2.out
          rw [splice_all cur (cellsL l) (by rw [HCS.out, cellsL_length]; exact H.out.1)] at hg2
          exact ⟨_, _, _, rfl, Sl.row H.out.1 (by omega) H.out.2.2.2.1 hg2, hB2⟩
    case rest =>
    obtain ⟨a1, len1, cap1, rfl, h1, hB1⟩ := hcut
    obtain ⟨wg, hwg⟩ : ∃ wg, wg = wc := ⟨_, rfl⟩
    subst hwg
    have H1 : Hid (Sl wg a1 len1 cap1 l) := h1
    have hlc1 : len1 ≤ cap1 := h1.2.1
    have hc631 : cap1 ≤ 9223372036854775807 := h1.2.2.1
    clear h1 H HN hlc hc63 hsm HI hz0 hz1 hz2
    have A : Hid _ := Plain.aut0_split l
    have T : Hid _ := Plain.split_take l
    have L : Hid _ := Plain.split_le l
    go_wp2_with fail
    refine (valid_any a1 len1 cap1 l _ H1.out).mono ?_
    rintro e w1 ⟨rfl, hb⟩
    have H2 : Hid (Sl w1 a1 len1 cap1 l) := H1.out.below hb
    have hB2 : Below w0.heap.size w0 w1 := hB1.trans (hb.mono hB1.size)
    clear hb H1 hB1
    cases ho : Plain.split l with
    | none =>
      have HO : Hid _ := ho
      clear ho
      simp only [vAt_none, vOk_none]
      go_wp2_with fail
      refine (aut_any a1 len1 cap1 l _ H2.out).mono ?_
      rw [A.out, HO.out, vAt_none, vOk_none]
      rintro e w2 ⟨rfl, rfl⟩
      go_wp2_with fail
      go_ret
      exact ⟨rfl, hB2⟩
    | some i =>
      have hi1 : i ≤ len1 := by rw [H2.out.1]; exact L.out i ho
      have HO : Hid _ := ho
      clear ho
      simp only [vAt_some, vOk_some]
      have s1 := run_upto a1 len1 cap1 i (by omega)
      have ne1 : ((i : Int) != (i : Int)) = false := by simp
      go_wp2_with fail
      refine (aut_any a1 len1 cap1 l _ H2.out).mono ?_
      rw [A.out, HO.out, vAt_some, vOk_some]
      rintro e w2 ⟨rfl, rfl⟩
      go_wp2_with fail
      refine (valid_any a1 i cap1 (l.take i) _ (H2.out.take i hi1)).mono ?_
      rintro e w3 ⟨rfl, hb⟩
      have hB3 : Below w0.heap.size w0 w3 := hB2.trans (hb.mono hB2.size)
      clear hb s1
      rcases T.out i HO.out with ht | ht
      · rw [ht, vAt_none, vOk_none]
        clear ht
        go_wp2_with fail
        go_ret
        exact ⟨rfl, hB3⟩
      · rw [ht, vAt_some, vOk_some]
        clear ht
        go_wp2_with fail
        go_ret
        exact ⟨by simp, hB3⟩
  · go_enter Try.func3, Try.ntmps3
    go_wp2_with (go_at_call 5; refine (bytesA_large _ _ _ _ (by omega)).mono ?_; rintro e w' ⟨rfl, rfl⟩)
    go_ret
    exact ⟨rfl, Below.refl _ _⟩
end Go.Proofs.Qxb6628662a
