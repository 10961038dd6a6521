/- A region that draws its order, walked once in the order of the text, over a class of worlds of one's own (the library's wpQuiet): laws for one operation. -/
import Derived.Test.Qxb6617018aHex
import Derived.Deep.Quiet
namespace Go.Proofs.Qxb6617018a
open Go.RowKit

section
variable {P : Program} {ops : Array Oper} {C : World → Prop} {Q : Act → Prop} {a : Act} {o : Oper} {rest : List Oper}

theorem q_value (v : Value) (hw : Region.wanted o (yielded ops a.tmps) = true) (hrun : ∀ w, C w → (execOp a.eval o).run P w = .ok (.value v) w)
    (h : wpQuiet P ops C Q rest (a.put o.dst v)) : wpQuiet P ops C Q (o :: rest) a :=
  wpQuiet_step fun K hK => by
    rw [if_pos hw]
    exact ⟨v, fun w hC => by unfold Oper.quietAt; rw [hrun w hC]; exact ⟨rfl, rfl⟩, hK _ h⟩

theorem q_skip (hw : Region.wanted o (yielded ops a.tmps) = false) (h : wpQuiet P ops C Q rest (a.put o.dst undef)) : wpQuiet P ops C Q (o :: rest) a :=
  wpQuiet_step fun K hK => by
    rw [if_neg (by rw [hw]; simp)]
    exact hK _ h

theorem q_call (v : Value) (f : FuncId) (args : Array Value) (hw : Region.wanted o (yielded ops a.tmps) = true) (hrun : ∀ w, C w → (execOp a.eval o).run P w = .ok (.enter f args) w)
    (hcall : ∀ w, C w → Calls P f args w fun e w' => e = .returned v ∧ C w')
    (h : wpQuiet P ops C Q rest (a.put o.dst v)) : wpQuiet P ops C Q (o :: rest) a :=
  wpQuiet_step fun K hK => by
    rw [if_pos hw]
    exact ⟨v, fun w hC => by unfold Oper.quietAt; rw [hrun w hC]; exact ⟨rfl, hcall w hC⟩, hK _ h⟩

/-- A whole array out of a block that the class knows. -/
theorem q_row (ty : TypeId) (x : Operand) (ho : o.op = .load ty x) (g : Nat) (hx : a.eval x = .pointer (some ⟨g, 0, none⟩)) (t : TypeId) (cs : Array Value) (fr : Nat × Nat) (d : TypeDesc)
    (hw : Region.wanted o (yielded ops a.tmps) = true) (hg : ∀ w, C w → w.heap[g]? = some (.cells cs t fr)) (hu : P.underlying ty = some d)
    (hd : (match d with | .struct _ | .array _ _ => true | _ => false) = true) (hi : (P.info? ty).map (·.size) = some cs.size)
    (h : wpQuiet P ops C Q rest (a.put o.dst (.agg cs))) : wpQuiet P ops C Q (o :: rest) a :=
  q_value (.agg cs) hw (fun w hC => by
    unfold execOp
    simp only [ho, hx, Instr.loadAt, Instr.sureAddr, Sem.run_bind, Sem.run_pure, Result.andThen_ok, run_loadVar_row w g t ty cs fr d (hg w hC) hu hd hi]) h
end
end Go.Proofs.Qxb6617018a
