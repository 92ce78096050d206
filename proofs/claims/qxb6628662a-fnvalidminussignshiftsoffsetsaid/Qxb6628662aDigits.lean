import Derived.Test.Qxb6628662aRows
import Derived.Test.Qxb6628662aPlain
import Derived.WalkKit
import Derived.WalkSpells
import Derived.WalkLawsBesides
import Derived.OpenShut
import Derived.Deep.QuietTactic
import Derived.BigQuiet
namespace Go.Proofs.Qxb6628662a
open Go.RowKit

/-- a slice of bytes: its first 'len' cells are the numbers l -/
def Sl (w : World) (a : Option Addr) (len cap : Nat) (l : List Int) : Prop :=
  len = l.length ∧ len ≤ cap ∧ cap ≤ 9223372036854775807 ∧ (∀ c ∈ l, 0 ≤ c ∧ c ≤ 255) ∧
  (0 < len → ∃ b off, a = some ⟨b, off, none⟩ ∧ ∀ i, i < len → w.cell? ⟨b, off + i, none⟩ = some (.int .u8 (l.getD i 0)))

/-- where 'x[i:]' begins -/
def adv (a : Option Addr) (cap i : Nat) : Option Addr := if cap = i then a else a.map fun p => p.add (i * 1)

theorem Sl.adv {w : World} {a : Option Addr} {len cap : Nat} {l : List Int} (h : Sl w a len cap l) (i : Nat) (hi : i ≤ len) : Sl w (adv a cap i) (len - i) (cap - i) (l.drop i) := by
  obtain ⟨h1, h2, h3, h4, h5⟩ := h
  refine ⟨by rw [h1]; simp, by omega, by omega, fun c hc => h4 c (List.mem_of_mem_drop hc), fun hlt => ?_⟩
  obtain ⟨b, off, rfl, hc⟩ := h5 (by omega)
  refine ⟨b, off + i, ?_, fun j hj => ?_⟩
  · unfold Qxb6628662a.adv
    rw [if_neg (by omega)]
    simp [Addr.add]
  · have := hc (i + j) (by omega)
    rw [Nat.add_assoc, this]
    simp [List.getD]
theorem Sl.take {w : World} {a : Option Addr} {len cap : Nat} {l : List Int} (h : Sl w a len cap l) (i : Nat) (hi : i ≤ len) : Sl w a i cap (l.take i) := by
  obtain ⟨h1, h2, h3, h4, h5⟩ := h
  refine ⟨by simp; omega, by omega, h3, fun c hc => h4 c (List.mem_of_mem_take hc), fun hlt => ?_⟩
  obtain ⟨b, off, rfl, hc⟩ := h5 (by omega)
  refine ⟨b, off, rfl, fun j hj => ?_⟩
  have := hc j (by omega)
  rw [this]
  simp [List.getD, hj]

theorem getD_mem (l : List Int) (k : Nat) (h : k < l.length) : l.getD k 0 ∈ l := by
  have : l.getD k 0 = l[k] := by simp [List.getD, h]
  rw [this]; exact List.getElem_mem _
theorem Sl.cell {w : World} {a : Option Addr} {len cap : Nat} {l : List Int} (h : Sl w a len cap l) (k : Nat) (hk : k < len) :
    ∃ b off, a = some ⟨b, off, none⟩ ∧ w.cell? ⟨b, off + k, none⟩ = some (.int .u8 (l.getD k 0)) ∧ b < w.heap.size ∧ 0 ≤ l.getD k 0 ∧ l.getD k 0 ≤ 255 := by
  obtain ⟨h1, h2, h3, h4, h5⟩ := h
  obtain ⟨b, off, e, hc⟩ := h5 (by omega)
  have hb := h4 _ (getD_mem l k (by omega))
  exact ⟨b, off, e, hc k hk, block_lt_of_cell (hc k hk), hb.1, hb.2⟩

theorem size22 (w : World) : (sizeOf (Try.prog.elem 22)).run Try.prog w = .ok 1 w := by kernel_rfl
theorem run_from (a : Option Addr) (len cap i : Nat) (hi : i ≤ len) (w : World) : (Instr.slice 22 (.slice a len cap) (some (.int .i64 i)) none none).run Try.prog w = .ok (.slice (adv a cap i) (len - i) (cap - i)) w := by
  rw [run_slice_l w 22 a len cap Try.underlying22 .i64 i (by omega) (by omega), size22]
  simp [sliced, Result.andThen, adv]
theorem run_upto (a : Option Addr) (len cap i : Nat) (hi : i ≤ cap) (w : World) : (Instr.slice 22 (.slice a len cap) none (some (.int .i64 i)) none).run Try.prog w = .ok (.slice a i cap) w := by
  rw [run_slice_h w 22 a len cap Try.underlying22 .i64 i (by omega) (by omega), size22]
  cases a <;> simp [sliced, Result.andThen, Addr.add]

theorem cd_of (l : List Int) (k : Nat) (hk : k ≤ l.length) (h : ∀ j, j < k → Plain.isD (l.getD j 0) = true) (hn : k < l.length → Plain.isD (l.getD k 0) = false) : Plain.cd l = k := by
  induction l generalizing k with
  | nil => simp at hk; simp [Plain.cd, hk]
  | cons c l ih =>
    cases k with
    | zero =>
      have := hn (by simp)
      simp at this
      simp [Plain.cd, this]
    | succ k =>
      have h0 := h 0 (by omega)
      simp at h0
      simp only [Plain.cd, h0, if_true]
      congr 1
      refine ih k (by simpa using hk) (fun j hj => ?_) (fun hlt => ?_)
      · have := h (j + 1) (by omega)
        simpa using this
      · have := hn (by simpa using hlt)
        simpa using this

theorem isD_t {c : Int} (h1 : 48 ≤ c) (h2 : c ≤ 57) : Plain.isD c = true := (Plain.isD_iff c).2 ⟨h1, h2⟩
theorem isD_f {c : Int} (h : c < 48 ∨ 57 < c) : Plain.isD c = false := by
  cases hh : Plain.isD c with
  | false => rfl
  | true => have := (Plain.isD_iff c).1 hh; omega
theorem ret2 {a b : Value} {c d : Value} (h1 : a = c) (h2 : b = d) : Ending.returned (.tuple #[a, b]) = .returned (.tuple #[c, d]) := by rw [h1, h2]

set_option maxHeartbeats 400000 in
theorem digits_any (a : Option Addr) (len cap : Nat) (l : List Int) (w : World) (h : Sl w a len cap l) :
    Calls Try.prog 13 #[.slice a len cap] w fun e w' => e = .returned (.tuple #[.slice a (Plain.cd l) cap, .slice (adv a cap (Plain.cd l)) (len - Plain.cd l) (cap - Plain.cd l)]) ∧ ∃ n, w' = w.drewN n := by
  have H : Hid (Sl w a len cap l) := h
  obtain ⟨h1, h2, h3, _, _⟩ := h
  have H1 : Hid _ := h1
  clear h1
  go_enter Try.func13, Try.ntmps13
  go_wp2_with fail
  go_loop [4] (fun i => ∃ k : Nat, k ≤ len ∧ i = .int .i64 k ∧ ∀ j, j < k → Plain.isD (l.getD j 0) = true) (fun i => len - (intOf i).toNat)
  case atStart => exact ⟨0, by omega, rfl, fun j hj => by omega⟩
  case round =>
    obtain ⟨k, hk, rfl, hd⟩ := hrel
    have HD : Hid _ := hd
    clear hd
    by_cases hlt : k < len
    · obtain ⟨b, off, e, hck, _, v0, v1⟩ := H.out.cell k hlt
      subst e
      generalize hv : l.getD k 0 = v at *
      have HV : Hid _ := hv
      clear hv
      by_cases hv1 : 48 ≤ v
      · by_cases hv2 : v ≤ 57
        · go_wp2_with fail
          go_round
          case rel => exact ⟨k + 1, by omega, by go_num, fun j hj => (by
            by_cases e : j = k
            · rw [e, HV.out]; exact isD_t hv1 hv2
            · exact HD.out j (by omega))⟩
          case measure => simp [intOf]; omega
        · have d1 : decide (v ≤ 57) = false := by simp; omega
          have hcd : Plain.cd l = k := cd_of l k (by rw [← H1.out]; exact hk) HD.out (fun hh => by rw [HV.out]; exact isD_f (by omega))
          have HCD : Hid _ := hcd
          clear hcd
          have s1 := run_upto (some ⟨b, off, none⟩) len cap k (by omega)
          have s2 := run_from (some ⟨b, off, none⟩) len cap k (by omega)
          go_wp2_with fail
          go_quiet (fail)
          go_wp2_with fail
          go_ret2
          exact ⟨by rw [HCD.out]; rfl, _, rfl⟩

      · have d1 : decide (48 ≤ v) = false := by simp; omega
        have hcd : Plain.cd l = k := cd_of l k (by rw [← H1.out]; exact hk) HD.out (fun hh => by rw [HV.out]; exact isD_f (by omega))
        have HCD : Hid _ := hcd
        clear hcd
        have s1 := run_upto (some ⟨b, off, none⟩) len cap k (by omega)
        have s2 := run_from (some ⟨b, off, none⟩) len cap k (by omega)
        go_wp2_with fail
        go_quiet (fail)
        go_wp2_with fail
        go_ret2
        exact ⟨by rw [HCD.out]; rfl, _, rfl⟩

    · have d1 : decide ((k : Int) < (len : Int)) = false := by simp; omega
      have hcd : Plain.cd l = k := cd_of l k (by rw [← H1.out]; exact hk) HD.out (fun hh => by have := H1.out; omega)
      have HCD : Hid _ := hcd
      clear hcd
      have s1 := run_upto a len cap k (by omega)
      have s2 := run_from a len cap k (by omega)
      go_wp2_with fail
      go_quiet (fail)
      go_wp2_with fail
      go_ret2
      exact ⟨by rw [HCD.out]; rfl, _, rfl⟩

end Go.Proofs.Qxb6628662a
