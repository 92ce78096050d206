import Derived.WalkKit
import Derived.Deep.QuietTactic
import Derived.BigQuiet
namespace Go.Proofs.Qxb6628538a
/-! A region that draws its order, walked once in the order of the text, over a set of worlds of our own choice (Derived/Deep/Quiet.lean): the steps as laws. -/
section
variable {P : Program} {ops : Array Oper} {C : World → Prop} {Q : Act → Prop} {a : Act} {o : Oper} {rest : List Oper}

theorem q_move (hw : Region.wanted o (yielded ops a.tmps) = true) (x : Operand) (h : o.op = .move x) (v : Value) (hv : a.eval x = v) (hk : wpQuiet P ops C Q rest (a.put o.dst v)) : wpQuiet P ops C Q (o :: rest) a :=
  BigFrame.wpQuiet_want hw fun _ hK => BigFrame.quiet_move x h (by rw [hv]; exact hK _ hk)

theorem q_skip (hw : Region.wanted o (yielded ops a.tmps) = false) (h : wpQuiet P ops C Q rest (a.put o.dst undef)) : wpQuiet P ops C Q (o :: rest) a := BigFrame.wpQuiet_skip hw h

theorem q_value (hw : Region.wanted o (yielded ops a.tmps) = true) (v : Value) (h : ∀ w, (execOp a.eval o).run P w = .ok (.value v) w) (hk : wpQuiet P ops C Q rest (a.put o.dst v)) : wpQuiet P ops C Q (o :: rest) a :=
  BigFrame.wpQuiet_want hw fun _ hK => ⟨v, fun w _ => by unfold Oper.quietAt; rw [h w]; exact ⟨rfl, rfl⟩, hK _ hk⟩

theorem q_load (hw : Region.wanted o (yielded ops a.tmps) = true) (ty : TypeId) (x : Operand) (ho : o.op = .load ty x) (g : Nat) (hx : a.eval x = .pointer (some ⟨g, 0, none⟩))
    (t : TypeId) (cs : Array Value) (fr : Nat × Nat) (d : TypeDesc) (hg : ∀ w, C w → w.heap[g]? = some (.cells cs t fr))
    (hu : P.underlying ty = some d) (hd : (match d with | .struct _ | .array _ _ => true | _ => false) = true) (hi : (P.info? ty).map (·.size) = some cs.size)
    (hk : wpQuiet P ops C Q rest (a.put o.dst (.agg cs))) : wpQuiet P ops C Q (o :: rest) a :=
  BigFrame.wpQuiet_want hw fun _ hK => ⟨.agg cs, fun w hC => by
    unfold Oper.quietAt execOp
    simp only [ho, hx, Instr.loadAt, Instr.sureAddr, Sem.run_bind, Sem.run_pure, Result.andThen_ok, run_loadVar_row w g t ty cs fr d (hg w hC) hu hd hi]
    exact ⟨rfl, rfl⟩, hK _ hk⟩

theorem q_call (hw : Region.wanted o (yielded ops a.tmps) = true) (f : FuncId) (args : Array Value) (h : ∀ w, (execOp a.eval o).run P w = .ok (.enter f args) w) (v : Value)
    (hc : ∀ w, C w → Calls P f args w (fun e w' => e = .returned v ∧ C w')) (hk : wpQuiet P ops C Q rest (a.put o.dst v)) : wpQuiet P ops C Q (o :: rest) a :=
  BigFrame.wpQuiet_want hw fun _ hK => ⟨v, fun w hC => by unfold Oper.quietAt; rw [h w]; exact ⟨rfl, hc w hC⟩, hK _ hk⟩

theorem region_class (C : World → Prop) {id : Nat} {Q : Exit → Act → World → Prop} {a : Act} {w : World} {l : List Oper} (hm : P.follows .mixedOrders = true) (hB : Region.lexB .any l.toArray = true)
    (hC : C w.drew) (h : wpQuiet P l.toArray C (fun a' => ∀ w', C w' → Q .normal a' w') l a) : (Code.region id l.toArray true).wp P Q a w :=
  wp_region_quiet (C := C) hm hB hC (by simpa using h)
end
end Go.Proofs.Qxb6628538a
