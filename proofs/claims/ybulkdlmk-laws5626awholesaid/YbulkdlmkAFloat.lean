/-
  Float arithmetic at the operation, whatever the operands: the rounded result, or some NaN off the tape.
-/
import Derived.Test.YbulkdlmkFloat
namespace Go.Proofs.Ybulkdlmk.Fl
open Go

theorem run_float_any {P : Program} (w : World) (op : BinOp) (hop : op = .add ∨ op = .sub ∨ op = .mul ∨ op = .quo) (t : TypeId) (x y : Nat) :
    ∃ z d, (binOp op t (.float .f64 x) (.float .f64 y)).run P w = .ok (.float .f64 z) (w.drewN d) ∧ Step op x y z := by
  cases h : floatBits op .f64 x y with
  | some r => exact ⟨r, 0, run_float_arith w op t .f64 x y r h, .inl h⟩
  | none =>
    refine ⟨(Question.nanBits .f64 x y).cut (w.tape w.drawn (Question.nanBits .f64 x y)), 1, ?_, .inr ⟨h, nan_drawn x y _⟩⟩
    have hf : (Question.nanBits .f64 x y).forced = false := rfl
    rcases hop with rfl | rfl | rfl | rfl <;> simp only [floatBits] at h <;> (simp [binOp, Op.floatArith, h, hf]; rfl)

theorem wpList_float {P : Program} (w : World) {ops : Array Oper} {rest : List Oper} {o : Oper} {a : Act} {Q : Exit → Act → World → Prop}
    (hg : o.guard = none) (op : BinOp) (hop4 : op = .add ∨ op = .sub ∨ op = .mul ∨ op = .quo) (t u : TypeId) (l r : Operand) (hop : o.op = Op.binOp op t l r u) (x y : Nat) (hl : a.eval l = .float .f64 x) (hr : a.eval r = .float .f64 y)
    (hK : ∀ z d, Step op x y z → wpList P ops Q rest (a.put o.dst (.float .f64 z)) (w.drewN d)) :
    wpList P ops Q (o :: rest) a w := by
  refine wpList_plain hg fun K' hK' => ?_
  obtain ⟨z, d, hrun, hs⟩ := run_float_any (P := P) w op hop4 t x y
  unfold Oper.wp
  rcases hop4 with rfl | rfl | rfl | rfl <;> simp [execOp, eqGuard, hop, hl, hr, hrun, Result.andThen] <;> exact hK' _ _ (hK z d hs)

end Go.Proofs.Ybulkdlmk.Fl
