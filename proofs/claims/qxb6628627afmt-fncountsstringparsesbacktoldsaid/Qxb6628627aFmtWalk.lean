import Derived.Test.Qxb6628627aFmtRows
import Derived.Test.Qxb6628627aFmtFmt
import Derived.Test.Qxb6628627aFmtPlain
import Derived.WalkKit
import Derived.WalkSpells
import Derived.WalkLawsBesides
import Derived.Stop.Texts
import Derived.Stop.JoinedTold
import Derived.Stop.FmtTextKit
namespace Go.Proofs.Qxb6628627aFmt
open Go.RowKit Go.Extern.Stop Go.Stop Go.Extern
attribute [local go_sem] call9 fguard op2_100 strict2 fmtMal fmtLine fmtMal0 fmtLine0

/-- the struct Counts -/
abbrev cnt (r d s a j t p m : Int) (b : Bool) : Array Value := #[.int .i64 r, .int .i64 d, .int .i64 s, .int .i64 a, .int .i64 j, .int .i64 t, .int .i64 p, .int .i64 m, .bool b]

set_option maxHeartbeats 400000 in
theorem new_any (r d s a j t p m : Int) (b : Bool) (w : World) :
    Calls Tryf.prog 5 #[.int .i64 r, .int .i64 d, .int .i64 s, .int .i64 a, .int .i64 j, .int .i64 t, .int .i64 p, .int .i64 m, .bool b] w fun e w' => e = .returned (.agg (cnt r d s a j t p m b)) ∧ w' = w.alloc (.cells (cnt r d s a j t p m b) 23) := by
  go_enter Tryf.func5, Tryf.ntmps5
  go_wp2
  exact bodyPost_ret (v := .agg (cnt r d s a j t p m b)) (by simp [results, Tryf.results5, go_sem]) rfl ⟨rfl, rfl⟩

/-- what fmt is asked for the line -/
def rdLine (r d s a j t p : Int) : List (List UInt8) := [[114, 101, 97, 100, 32, 37, 100, 32, 100, 105, 115, 99, 97, 114, 100, 101, 100, 32, 37, 100, 32, 115, 101, 110, 116, 32, 37, 100, 32, 97, 99, 107, 110, 111, 119, 108, 101, 100, 103, 101, 100, 32, 37, 100, 32, 114, 101, 106, 101, 99, 116, 101, 100, 32, 37, 100, 32, 114, 101, 116, 114, 105, 101, 100, 32, 37, 100, 32, 100, 114, 111, 112, 112, 101, 100, 32, 37, 100], shape2, digits 8 (r % 18446744073709551616).toNat, shape2, digits 8 (d % 18446744073709551616).toNat, shape2, digits 8 (s % 18446744073709551616).toNat, shape2, digits 8 (a % 18446744073709551616).toNat, shape2, digits 8 (j % 18446744073709551616).toNat, shape2, digits 8 (t % 18446744073709551616).toNat, shape2, digits 8 (p % 18446744073709551616).toNat]
/-- what fmt is asked for its end -/
def rdMal (m : Int) : List (List UInt8) := [[32, 109, 97, 108, 102, 111, 114, 109, 101, 100, 32, 37, 100], shape2, digits 8 (m % 18446744073709551616).toNat]

set_option maxHeartbeats 400000 in
theorem string_no (F : Interp) (r d s a j t p m : Int) (w : World) (hF : F.answers w.tape) :
    Calls Tryf.prog 6 #[.agg (cnt r d s a j t p m false)] w fun e w' => e = .returned (.string (FmtStop.textOf (F "fmt.Sprintf" (rdLine r d s a j t p) 0))) ∧ Below w.heap.size w w' := by
  have hF' := answers_open hF
  go_enter Tryf.func6, Tryf.ntmps6
  go_wp2
  go_ret
  exact ⟨rfl, (((Below.refl _ _).alloc (Nat.le_refl _) _).alloc (by simp) _).drew⟩

set_option maxHeartbeats 400000 in
theorem string_yes (F : Interp) (r d s a j t p m : Int) (w : World) (hF : F.answers w.tape)
    (h1 : (FmtStop.textOf (F "fmt.Sprintf" (rdLine r d s a j t p) 0)).size ≤ 1000) (h2 : (FmtStop.textOf (F "fmt.Sprintf" (rdMal m) 0)).size ≤ 1000) :
    Calls Tryf.prog 6 #[.agg (cnt r d s a j t p m true)] w fun e w' => e = .returned (.string (FmtStop.textOf (F "fmt.Sprintf" (rdLine r d s a j t p) 0) ++ FmtStop.textOf (F "fmt.Sprintf" (rdMal m) 0))) ∧ Below w.heap.size w w' := by
  have hF' := answers_open hF
  unfold rdLine at h1
  unfold rdMal at h2
  go_enter Tryf.func6, Tryf.ntmps6
  go_wp2
  · exfalso
    omega
  · go_ret
    exact ⟨rfl, (((((Below.refl _ _).alloc (Nat.le_refl _) _).alloc (by simp) _).alloc (by simp; omega) _).drew).drew⟩
end Go.Proofs.Qxb6628627aFmt
