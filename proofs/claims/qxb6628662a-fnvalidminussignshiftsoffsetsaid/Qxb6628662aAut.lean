import Derived.Test.Qxb6628662aDigits
namespace Go.Proofs.Qxb6628662a
open Go.RowKit

theorem ret_int {k : IntKind} {a b : Int} (h : a = b) : Ending.returned (.int k a) = .returned (.int k b) := by rw [h]

set_option maxHeartbeats 1000000 in
theorem step_any (s c : Int) (w : World) (hs0 : 0 ≤ s) (hs8 : s ≤ 8) (h0 : 0 ≤ c) (h1 : c ≤ 255) :
    Calls Try.prog 11 #[.int .i64 s, .int .u8 c] w fun e w' => e = .returned (.int .i64 (Plain.step s c)) ∧ w' = w := by
  have hc : s = 0 ∨ s = 1 ∨ s = 2 ∨ s = 3 ∨ s = 4 ∨ s = 5 ∨ s = 6 ∨ s = 7 ∨ s = 8 := by omega
  rcases hc with rfl | rfl | rfl | rfl | rfl | rfl | rfl | rfl | rfl
  all_goals
    go_enter Try.func11, Try.ntmps11
    go_wp2
    all_goals go_ret
    all_goals refine ⟨ret_int ?_, rfl⟩
    all_goals (try simp_all [Plain.step, Plain.isD])
    all_goals (try omega)

theorem accepts_any (s : Int) (w : World) : Calls Try.prog 12 #[.int .i64 s] w fun e w' => e = .returned (.bool (Plain.accepts s)) ∧ w' = w := by
  go_enter Try.func12, Try.ntmps12
  go_wp2
  all_goals go_ret
  · rename_i h; exact ⟨by rw [h]; rfl, rfl⟩
  · rename_i h; exact ⟨by rw [h]; rfl, rfl⟩
  · rename_i h; exact ⟨by rw [h]; rfl, rfl⟩
  · exact ⟨rfl, rfl⟩

/-- the offset that is answered -/
def vAt (o : Option Nat) : Int := match o with | none => 0 | some i => i
/-- the verdict that is answered -/
def vOk (o : Option Nat) : Bool := match o with | none => true | some _ => false

theorem step_le (s c : Int) : Plain.step s c ≤ 8 := by
  unfold Plain.step
  repeat' split
  all_goals omega
theorem drop_cons (l : List Int) (k : Nat) (h : k < l.length) : l.drop k = l.getD k 0 :: l.drop (k + 1) := by
  rw [List.drop_eq_getElem_cons h]
  simp [List.getD, h]
theorem aut_stop (s : Int) (l : List Int) (k : Nat) (h : k < l.length) (hs : Plain.step s (l.getD k 0) < 0) : Plain.aut s (l.drop k) k = some k := by
  rw [drop_cons l k h]; simp only [Plain.aut]; rw [if_pos hs]
theorem aut_next (s : Int) (l : List Int) (k : Nat) (h : k < l.length) (hs : ¬ Plain.step s (l.getD k 0) < 0) : Plain.aut s (l.drop k) k = Plain.aut (Plain.step s (l.getD k 0)) (l.drop (k + 1)) (k + 1) := by
  rw [drop_cons l k h]; simp only [Plain.aut]; rw [if_neg hs]
theorem aut_end (s : Int) (l : List Int) (k : Nat) (h : k = l.length) : Plain.aut s (l.drop k) k = if Plain.accepts s then none else some k := by
  rw [h, List.drop_length]; rfl

set_option maxHeartbeats 400000 in
theorem aut_any (a : Option Addr) (len cap : Nat) (l : List Int) (w : World) (h : Sl w a len cap l) :
    Calls Try.prog 7 #[.slice a len cap] w fun e w' => e = .returned (.tuple #[.int .i64 (vAt (Plain.aut 0 l 0)), .bool (vOk (Plain.aut 0 l 0))]) ∧ w' = w := by
  have H : Hid (Sl w a len cap l) := h
  have hlc : len ≤ cap := h.2.1
  have hc63 : cap ≤ 9223372036854775807 := h.2.2.1
  clear h
  go_enter Try.func7, Try.ntmps7
  go_wp2_with fail
  go_loop [4, 5] (fun s i => ∃ (k : Nat) (q : Int), k ≤ len ∧ i = .int .i64 k ∧ s = .int .i64 q ∧ 0 ≤ q ∧ q ≤ 8 ∧ Plain.aut 0 l 0 = Plain.aut q (l.drop k) k) (fun _ i => len - (intOf i).toNat)
  case atStart => exact ⟨0, 0, by omega, rfl, rfl, by omega, by omega, by simp⟩
  case round =>
    obtain ⟨k, q, hk, rfl, rfl, q0, q8, ha⟩ := hrel
    have HA : Hid _ := ha
    clear ha
    by_cases hlt : k < len
    · obtain ⟨b, off, e, hck, _, v0, v1⟩ := H.out.cell k hlt
      subst e
      have hkl : k < l.length := by rw [← H.out.1]; exact hlt
      have A1 : Hid _ := aut_stop q l k hkl
      have A2 : Hid _ := aut_next q l k hkl
      generalize l.getD k 0 = v at *
      have hsl := step_le q v
      by_cases hn : Plain.step q v < 0
      · have e1 := HA.out.trans (A1.out hn)
        have EE : Hid _ := e1
        clear e1
        go_wp2_with (go_at_call 11; refine (step_any q v _ q0 q8 v0 v1).mono ?_; rintro e w' ⟨rfl, rfl⟩)
        go_ret2
        exact ⟨by rw [EE.out]; rfl, rfl⟩
      · have e1 := HA.out.trans (A2.out hn)
        have EE : Hid _ := e1
        clear e1
        go_wp2_with (go_at_call 11; refine (step_any q v _ q0 q8 v0 v1).mono ?_; rintro e w' ⟨rfl, rfl⟩)
        go_round
        case rel => exact ⟨k + 1, Plain.step q v, by omega, by go_num, rfl, by omega, hsl, EE.out⟩
        case measure => simp [intOf]; omega
    · have hke : k = len := by omega
      have e1 := HA.out.trans (aut_end q l k (by rw [hke]; exact H.out.1))
      cases hacc : Plain.accepts q with
      | true =>
        rw [hacc] at e1
        have EE : Hid _ := e1
        clear e1 hke
        go_wp2_with fail
        refine (accepts_any q _).mono ?_
        rw [hacc]
        rintro e w' ⟨rfl, rfl⟩
        go_wp2_with fail
        go_ret2
        exact ⟨by rw [EE.out]; rfl, rfl⟩
      | false =>
        rw [hacc] at e1
        subst hke
        have EE : Hid _ := e1
        clear e1
        go_wp2_with fail
        refine (accepts_any q _).mono ?_
        rw [hacc]
        rintro e w' ⟨rfl, rfl⟩
        go_wp2_with fail
        go_ret2
        exact ⟨by rw [EE.out]; rfl, rfl⟩

set_option maxHeartbeats 400000 in
theorem all_any (a : Option Addr) (len cap : Nat) (l : List Int) (w : World) (h : Sl w a len cap l) :
    Calls Try.prog 9 #[.slice a len cap] w fun e w' => e = .returned (.bool (l.all Plain.isD)) ∧ w' = w := by
  have H : Hid (Sl w a len cap l) := h
  have hlc : len ≤ cap := h.2.1
  have hc63 : cap ≤ 9223372036854775807 := h.2.2.1
  clear h
  go_enter Try.func9, Try.ntmps9
  go_wp2_with fail
  go_loop [3] (fun i => ∃ k : Nat, k ≤ len ∧ i = .int .i64 k ∧ ∀ j, j < k → Plain.isD (l.getD j 0) = true) (fun i => len - (intOf i).toNat)
  case atStart => exact ⟨0, by omega, rfl, fun j hj => by omega⟩
  case round =>
    obtain ⟨k, hk, rfl, hd⟩ := hrel
    have HD : Hid _ := hd
    clear hd
    by_cases hlt : k < len
    · obtain ⟨b, off, e, hck, _, v0, v1⟩ := H.out.cell k hlt
      subst e
      have hkl : k < l.length := by rw [← H.out.1]; exact hlt
      have hmem := getD_mem l k hkl
      generalize hv : l.getD k 0 = v at *
      have HV : Hid _ := hv
      have HM : Hid _ := hmem
      clear hv hmem
      by_cases hv1 : 48 ≤ v
      · by_cases hv2 : v ≤ 57
        · go_wp2_with fail
          go_round
          case rel => exact ⟨k + 1, by omega, by go_num, fun j hj => (by
            by_cases e : j = k
            · rw [e, HV.out]; exact isD_t hv1 hv2
            · exact HD.out j (by omega))⟩
          case measure => simp [intOf]; omega
        · have hf : l.all Plain.isD = false := by
            rw [List.all_eq_false]
            exact ⟨v, HM.out, by rw [isD_f (by omega)]; simp⟩
          have HF : Hid _ := hf
          clear hf
          go_wp2_with fail
          go_ret
          exact ⟨by rw [HF.out]; rfl, rfl⟩
      · have hf : l.all Plain.isD = false := by
          rw [List.all_eq_false]
          exact ⟨v, HM.out, by rw [isD_f (by omega)]; simp⟩
        have HF : Hid _ := hf
        clear hf
        go_wp2_with fail
        go_ret
        exact ⟨by rw [HF.out]; rfl, rfl⟩
    · have ht : l.all Plain.isD = true := by
        rw [List.all_eq_true]
        intro x hx
        obtain ⟨j, hj, e⟩ := List.getElem_of_mem hx
        have := HD.out j (by have := H.out.1; omega)
        simp only [List.getD, List.getElem?_eq_getElem hj, Option.getD_some] at this
        rw [← e]; exact this
      have HF : Hid _ := ht
      clear ht
      go_wp2_with fail
      go_ret
      exact ⟨by rw [HF.out]; rfl, rfl⟩
end Go.Proofs.Qxb6628662a
