import Derived.Test.Qxb6628627aFmtBack2
import Derived.Test.Qxb6628627aFmtLines
namespace Go.Proofs.Qxb6628627aFmt
open Go.RowKit Go.Extern.Stop Go.Stop Go.Extern Go.Kit

theorem back_any (F : Interp) (r d s a j t p m : Int) (b : Bool) (w : World) (hF : F.told.answers w.tape) (hr : (Lit.int .i64 r).wf = true) (hd : (Lit.int .i64 d).wf = true) (hs : (Lit.int .i64 s).wf = true) (ha : (Lit.int .i64 a).wf = true) (hj : (Lit.int .i64 j).wf = true) (ht : (Lit.int .i64 t).wf = true) (hp : (Lit.int .i64 p).wf = true) (hm : (Lit.int .i64 m).wf = true) :
    Calls Tryf.prog 3 #[.int .i64 r, .int .i64 d, .int .i64 s, .int .i64 a, .int .i64 j, .int .i64 t, .int .i64 p, .int .i64 m, .bool b] w fun e w' => e = .returned (.bool true) ∧ Below w.heap.size w w' := by
  have hwf : ∀ i, i < 8 → (Lit.int .i64 ((fun i => [r, d, s, a, j, t, p, m].getD i 0) i)).wf = true := by
    intro i hi
    have hc : i = 0 ∨ i = 1 ∨ i = 2 ∨ i = 3 ∨ i = 4 ∨ i = 5 ∨ i = 6 ∨ i = 7 := by omega
    rcases hc with rfl | rfl | rfl | rfl | rfl | rfl | rfl | rfl <;> assumption
  cases b with
  | false => exact back_no F r d s a j t p m w hF hr hd hs ha hj ht hp _ rfl hwf _ rfl _ _ (line_of_toks 7 (by omega) _ _ (lineT_toks r d s a j t p m))
  | true => exact back_yes F r d s a j t p m w hF hr hd hs ha hj ht hp hm _ rfl hwf _ rfl _ _ (line_of_toks 8 (by omega) _ _ (lineM_toks r d s a j t p m))
end Go.Proofs.Qxb6628627aFmt
