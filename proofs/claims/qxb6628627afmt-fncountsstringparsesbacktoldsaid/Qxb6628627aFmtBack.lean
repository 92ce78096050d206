import Derived.Test.Qxb6628627aFmtText
import Derived.Test.Qxb6628627aFmtParse
import Derived.Test.Qxb6628627aFmtToks
namespace Go.Proofs.Qxb6628627aFmt
open Go.RowKit Go.Extern.Stop Go.Stop Go.Extern Go.Kit

/-- the names of the line, in order -/
def nm : Nat → List UInt8
  | 0 => [114, 101, 97, 100]
  | 1 => [100, 105, 115, 99, 97, 114, 100, 101, 100]
  | 2 => [115, 101, 110, 116]
  | 3 => [97, 99, 107, 110, 111, 119, 108, 101, 100, 103, 101, 100]
  | 4 => [114, 101, 106, 101, 99, 116, 101, 100]
  | 5 => [114, 101, 116, 114, 105, 101, 100]
  | 6 => [100, 114, 111, 112, 112, 101, 100]
  | 7 => [109, 97, 108, 102, 111, 114, 109, 101, 100]
  | _ => []

theorem name_any (n : Int) (w : World) (h0 : 0 ≤ n) (h8 : n < 8) : Calls Tryf.prog 7 #[.int .i64 n] w fun e w' => e = .returned (.string ⟨(nm n.toNat).toArray⟩) ∧ w' = w := by
  have hc : n = 0 ∨ n = 1 ∨ n = 2 ∨ n = 3 ∨ n = 4 ∨ n = 5 ∨ n = 6 ∨ n = 7 := by omega
  rcases hc with rfl | rfl | rfl | rfl | rfl | rfl | rfl | rfl <;>
    (go_enter Tryf.func7, Tryf.ntmps7
     go_wp2
     go_ret
     exact ⟨rfl, rfl⟩)

/-- what the walk is told of the line: its words, one behind the other -/
structure Line (ln : ByteArray) (n : Nat) (val : Nat → Int) (pos st : Nat → Nat) : Prop where
  z : pos 0 = 0 ∧ st 0 = 0
  stp : ∀ k, 0 < k → k < 2 * n → st k = pos k + 1
  blank : ∀ k, 0 < k → k < 2 * n → ∃ h : pos k < ln.size, ln[pos k].toNat = 32
  lt : ∀ k, k < 2 * n → st k < pos (k + 1) ∧ pos (k + 1) ≤ ln.size
  tok : ∀ k, k < 2 * n → ∀ q, st k ≤ q → q < pos (k + 1) → ∃ h : q < ln.size, ln[q].toNat ≠ 32
  fin : ∀ k, k < 2 * n → (h : pos (k + 1) < ln.size) → ln[pos (k + 1)].toNat = 32
  even : ∀ k, k < 2 * n → k % 2 = 0 → ln.extract (st k) (pos (k + 1)) = ⟨(nm (k / 2)).toArray⟩
  odd : ∀ k, k < 2 * n → k % 2 = 1 → (ln.extract (st k) (pos (k + 1))).data.toList = Lib.itoa (val (k / 2))
  all : pos (2 * n) = ln.size

theorem cut_ne (ln : ByteArray) (a b : Nat) (h : a < b) (hb : b ≤ ln.size) : (ln.extract a b).toList.isEmpty = false := by
  rw [ByteArray.toList_eq]
  have hl : (ln.extract a b).data.toList.length = b - a := by simp; omega
  cases hh : (ln.extract a b).data.toList with
  | nil => rw [hh] at hl; simp at hl; omega
  | cons x l => rfl

set_option maxRecDepth 100000 in
set_option maxHeartbeats 4000000 in
theorem back_no (F : Interp) (r d s a j t p m : Int) (w : World) (hF : F.told.answers w.tape) (hr : (Lit.int .i64 r).wf = true) (hd : (Lit.int .i64 d).wf = true) (hs : (Lit.int .i64 s).wf = true) (ha : (Lit.int .i64 a).wf = true) (hj : (Lit.int .i64 j).wf = true) (ht : (Lit.int .i64 t).wf = true) (hp : (Lit.int .i64 p).wf = true)
    (val : Nat → Int) (hval : val = fun i => [r, d, s, a, j, t, p, m].getD i 0) (hwf : ∀ i, i < 8 → (Lit.int .i64 (val i)).wf = true)
    (ln : ByteArray) (hln : ln = ⟨(lineT r d s a j t p).toArray⟩) (pos st : Nat → Nat) (hL : Line ln 7 val pos st) :
    Calls Tryf.prog 3 #[.int .i64 r, .int .i64 d, .int .i64 s, .int .i64 a, .int .i64 j, .int .i64 t, .int .i64 p, .int .i64 m, .bool false] w fun e w' => e = .returned (.bool true) ∧ Below w.heap.size w w' := by
  have hsz : ln.size ≤ 1000 := by
    have := line_len r d s a j t p hr hd hs ha hj ht hp
    rw [hln]; show (lineT r d s a j t p).toArray.size ≤ 1000; simp; omega
  have HLN : Hid _ := hln
  have HV : Hid _ := hval
  clear hln hval
  go_enter Tryf.func3, Tryf.ntmps3
  go_wp2_with fail
  refine (new_any r d s a j t p m false _).mono ?_
  rintro e w' ⟨rfl, rfl⟩
  go_wp2_with fail
  refine (str_no F r d s a j t p m _ (by exact hF) hr hd hs ha hj ht hp).mono ?_
  rw [← HLN.out]
  rintro e w1 ⟨rfl, hb⟩
  have b1 : Below w.heap.size w w1 := (((Below.refl _ _).alloc (Nat.le_refl _) _).alloc (by simp) _).trans (hb.mono (by simp; omega))
  clear hb
  go_wp2_with fail
  have hcell : ∀ i, i < 8 → (w1.alloc (.cells #[.int .i64 r, .int .i64 d, .int .i64 s, .int .i64 a, .int .i64 j, .int .i64 t, .int .i64 p, .int .i64 m] 26)).cell? ⟨w1.heap.size, i, none⟩ = some (.int .i64 (val i)) := by
    intro i hi
    rw [cell_of_row _ _ i _ 26 (0, 0) (heap_alloc_new _ _), HV.out]
    have hc : i = 0 ∨ i = 1 ∨ i = 2 ∨ i = 3 ∨ i = 4 ∨ i = 5 ∨ i = 6 ∨ i = 7 := by omega
    rcases hc with rfl | rfl | rfl | rfl | rfl | rfl | rfl | rfl <;> rfl
  have b2 : Below w.heap.size w (w1.alloc (.cells #[.int .i64 r, .int .i64 d, .int .i64 s, .int .i64 a, .int .i64 j, .int .i64 t, .int .i64 p, .int .i64 m] 26)) := b1.alloc b1.size _
  generalize w1.alloc (.cells #[.int .i64 r, .int .i64 d, .int .i64 s, .int .i64 a, .int .i64 j, .int .i64 t, .int .i64 p, .int .i64 m] 26) = W at hcell b2 ⊢
  have HC : Hid _ := hcell
  clear hcell b1
  generalize w1.heap.size = B at *
  clear w1
  go_loop [23, 24] (fun pp kk => ∃ k : Nat, k ≤ 14 ∧ kk = .int .i64 k ∧ pp = .int .i64 (pos k : Nat)) (fun _ kk => 14 - (intOf kk).toNat)
  case atStart => exact ⟨0, by omega, rfl, by rw [hL.z.1]; rfl⟩
  case round =>
    obtain ⟨k, hk, rfl, rfl⟩ := hrel
    by_cases hlt : k < 14
    · obtain ⟨x1, x2⟩ := hL.lt k (by omega)
      have i1 : (k : Int) < 14 := by omega
      have hfin : Hid _ := hL.fin k (by omega)
      have htok : Hid _ := hL.tok k (by omega)
      by_cases h0 : k ≤ 0
      · have hst : st k = pos k := by have hk0 : k = 0 := by omega
                                      rw [hk0, hL.z.1, hL.z.2]
        have EV : Hid _ := hL.even k (by omega) (by omega)
        have par : ((k : Int) % 2 == 0) = true := beq_iff_eq.2 (by omega)
        rw [hst] at x1 EV
        have HST : Hid _ := hst
        have te := cut_ne ln _ _ x1 x2
        generalize hq : pos k = q at *
        generalize he : pos (k + 1) = E at *
        have HE : Hid _ := he
        clear hst he hq
        go_wp2_with fail
        go_loop [25] (fun v => ∃ i : Nat, q ≤ i ∧ i ≤ E ∧ v = .int .i64 i) (fun v => E - (intOf v).toNat)
        case atStart => exact ⟨q, by omega, by omega, by go_num⟩
        case round =>
          obtain ⟨i, z1, z2, rfl⟩ := hrel
          by_cases hie : i < E
          · obtain ⟨z3, z4⟩ := htok.out i (by rw [HST.out]; exact z1) hie
            have z5 : ((ln[i].toNat : Int) != 32) = true := by rw [bne_iff_ne]; omega
            clear z4
            go_wp2_with fail
            go_round
            case rel => exact ⟨i + 1, by omega, by omega, by go_num⟩
            case measure => simp [intOf]; omega
          · have hie2 : i = E := by omega
            subst hie2
            by_cases hend : i < ln.size
            · have z5 : ((ln[i].toNat : Int) != 32) = false := by rw [hfin.out hend]; rfl
              go_wp2_with fail
              refine (name_any ((k : Int) / 2) _ (by omega) (by omega)).mono ?_
              rw [show ((k : Int) / 2).toNat = k / 2 by omega, ← EV.out]
              rintro e w5 ⟨rfl, rfl⟩
              go_wp2_with fail
              go_round
              case rel => exact ⟨k + 1, by omega, by go_num, by rw [HE.out]⟩
              case measure => simp [intOf]; omega
            · have z5 : decide (i < ln.size) = false := by simp; omega
              go_wp2_with fail
              refine (name_any ((k : Int) / 2) _ (by omega) (by omega)).mono ?_
              rw [show ((k : Int) / 2).toNat = k / 2 by omega, ← EV.out]
              rintro e w5 ⟨rfl, rfl⟩
              go_wp2_with fail
              go_round
              case rel => exact ⟨k + 1, by omega, by go_num, by rw [HE.out]⟩
              case measure => simp [intOf]; omega
      · have hst := hL.stp k (by omega) (by omega)
        obtain ⟨y1, y2⟩ := hL.blank k (by omega) (by omega)
        have y3 : ((ln[pos k].toNat : Int) != 32) = false := by rw [y2]; rfl
        have i2 : 0 < k := by omega
        rw [hst] at x1
        have HST : Hid _ := hst
        have te := cut_ne ln _ _ x1 x2
        by_cases hpar : k % 2 = 0
        · have EV : Hid _ := hL.even k (by omega) hpar
          have par : ((k : Int) % 2 == 0) = true := beq_iff_eq.2 (by omega)
          rw [hst] at EV
          generalize hq : pos k = q at *
          generalize he : pos (k + 1) = E at *
          have HE : Hid _ := he
          clear hst y2 he hq h0 hpar
          go_wp2_with fail
          go_loop [25] (fun v => ∃ i : Nat, q + 1 ≤ i ∧ i ≤ E ∧ v = .int .i64 i) (fun v => E - (intOf v).toNat)
          case atStart => exact ⟨q + 1, by omega, by omega, by go_num⟩
          case round =>
            obtain ⟨i, z1, z2, rfl⟩ := hrel
            by_cases hie : i < E
            · obtain ⟨z3, z4⟩ := htok.out i (by rw [HST.out]; exact z1) hie
              have z5 : ((ln[i].toNat : Int) != 32) = true := by rw [bne_iff_ne]; omega
              clear z4
              go_wp2_with fail
              go_round
              case rel => exact ⟨i + 1, by omega, by omega, by go_num⟩
              case measure => simp [intOf]; omega
            · have hie2 : i = E := by omega
              subst hie2
              by_cases hend : i < ln.size
              · have z5 : ((ln[i].toNat : Int) != 32) = false := by rw [hfin.out hend]; rfl
                go_wp2_with fail
                refine (name_any ((k : Int) / 2) _ (by omega) (by omega)).mono ?_
                rw [show ((k : Int) / 2).toNat = k / 2 by omega, ← EV.out]
                rintro e w5 ⟨rfl, rfl⟩
                go_wp2_with fail
                go_round
                case rel => exact ⟨k + 1, by omega, by go_num, by rw [HE.out]⟩
                case measure => simp [intOf]; omega
              · have z5 : decide (i < ln.size) = false := by simp; omega
                go_wp2_with fail
                refine (name_any ((k : Int) / 2) _ (by omega) (by omega)).mono ?_
                rw [show ((k : Int) / 2).toNat = k / 2 by omega, ← EV.out]
                rintro e w5 ⟨rfl, rfl⟩
                go_wp2_with fail
                go_round
                case rel => exact ⟨k + 1, by omega, by go_num, by rw [HE.out]⟩
                case measure => simp [intOf]; omega
        · have OD : Hid _ := hL.odd k (by omega) (by omega)
          have par : ((k : Int) % 2 == 0) = false := beq_eq_false_iff_ne.2 (by omega)
          rw [hst] at OD
          generalize hq : pos k = q at *
          generalize he : pos (k + 1) = E at *
          have HE : Hid _ := he
          clear hst y2 he hq h0 hpar
          go_wp2_with fail
          go_loop [25] (fun v => ∃ i : Nat, q + 1 ≤ i ∧ i ≤ E ∧ v = .int .i64 i) (fun v => E - (intOf v).toNat)
          case atStart => exact ⟨q + 1, by omega, by omega, by go_num⟩
          case round =>
            obtain ⟨i, z1, z2, rfl⟩ := hrel
            by_cases hie : i < E
            · obtain ⟨z3, z4⟩ := htok.out i (by rw [HST.out]; exact z1) hie
              have z5 : ((ln[i].toNat : Int) != 32) = true := by rw [bne_iff_ne]; omega
              clear z4
              go_wp2_with fail
              go_round
              case rel => exact ⟨i + 1, by omega, by omega, by go_num⟩
              case measure => simp [intOf]; omega
            · have hie2 : i = E := by omega
              subst hie2
              by_cases hend : i < ln.size
              · have z5 : ((ln[i].toNat : Int) != 32) = false := by rw [hfin.out hend]; rfl
                go_wp2_with fail
                have hc1 := HC.out (k / 2) (by omega)
                have hc2 : (k : Int) / 2 < 8 := by omega
                refine (parse_itoa _ (val (k / 2)) _ OD.out (hwf _ (by omega))).mono ?_
                rintro e w5 ⟨rfl, rfl⟩
                generalize val (k / 2) = vv at *
                go_wp2_with fail
                go_round
                case rel => exact ⟨k + 1, by omega, by go_num, by rw [HE.out]⟩
                case measure => simp [intOf]; omega
              · have z5 : decide (i < ln.size) = false := by simp; omega
                go_wp2_with fail
                have hc1 := HC.out (k / 2) (by omega)
                have hc2 : (k : Int) / 2 < 8 := by omega
                refine (parse_itoa _ (val (k / 2)) _ OD.out (hwf _ (by omega))).mono ?_
                rintro e w5 ⟨rfl, rfl⟩
                generalize val (k / 2) = vv at *
                go_wp2_with fail
                go_round
                case rel => exact ⟨k + 1, by omega, by go_num, by rw [HE.out]⟩
                case measure => simp [intOf]; omega
    · have hk14 : k = 14 := by omega
      subst hk14
      have hall : pos 14 = ln.size := hL.all
      rw [hall]
      clear hall
      go_wp2_with fail
      go_ret
      exact ⟨by simp, b2⟩
end Go.Proofs.Qxb6628627aFmt
