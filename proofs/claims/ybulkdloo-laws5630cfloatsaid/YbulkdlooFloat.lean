/-
  Plain facts on float64: what is a NaN; that arithmetic keeps the class; that equal inputs give the same class. No program in sight.
-/
import Derived.Laws.FloatArith
import Derived.Deep.Draws
import Derived.WalkKit
namespace Go.Proofs.Ybulkdloo.Fl
open Go

def nan (x : Nat) : Bool := (FloatKind.f64.format.read x).isNaN

theorem order_self (x : Nat) : (FloatKind.f64.format.order x x == some .eq) = !nan x := by
  unfold nan Ieee.Format.order
  cases h : FloatKind.f64.format.read x with
  | number s m i => simp [Ieee.Datum.order, Ieee.Datum.isNaN]
  | infinity s => simp [Ieee.Datum.order, Ieee.Datum.isNaN]
  | nan s f => simp [Ieee.Datum.order, Ieee.Datum.isNaN]

theorem order_nan_left (x y : Nat) (h : nan x = true) : FloatKind.f64.format.order x y = none := by
  unfold nan at h
  unfold Ieee.Format.order
  cases e : FloatKind.f64.format.read x with
  | number s m i => rw [e] at h; simp [Ieee.Datum.isNaN] at h
  | infinity s => rw [e] at h; simp [Ieee.Datum.isNaN] at h
  | nan s f => simp [Ieee.Datum.order]

theorem bits_nan_left (op : BinOp) (x y : Nat) (h : nan x = true) : floatBits op .f64 x y = none := by
  unfold nan at h
  cases e : FloatKind.f64.format.read x with
  | number s m i => rw [e] at h; simp [Ieee.Datum.isNaN] at h
  | infinity s => rw [e] at h; simp [Ieee.Datum.isNaN] at h
  | nan s f => cases op <;> simp [floatBits, Ieee.Format.add, Ieee.Format.sub, Ieee.Format.mul, Ieee.Format.div, e, Ieee.Datum.sum, Ieee.Datum.product, Ieee.Datum.quotient]

theorem bits_nan_right (op : BinOp) (x y : Nat) (h : nan y = true) : floatBits op .f64 x y = none := by
  unfold nan at h
  cases e : FloatKind.f64.format.read y with
  | number s m i => rw [e] at h; simp [Ieee.Datum.isNaN] at h
  | infinity s => rw [e] at h; simp [Ieee.Datum.isNaN] at h
  | nan s f => cases op <;> cases ex : FloatKind.f64.format.read x <;> simp [floatBits, Ieee.Format.add, Ieee.Format.sub, Ieee.Format.mul, Ieee.Format.div, e, ex, Ieee.Datum.opposite, Ieee.Datum.sum, Ieee.Datum.product, Ieee.Datum.quotient]

/-- What the tape hands back for an invalid operation is a NaN. -/
theorem nan_drawn (x y t : Nat) : nan ((Question.nanBits .f64 x y).cut t) = true := by
  have e : (Question.nanBits .f64 x y).cut t = (t % 2) * 9223372036854775808 + 9218868437227405312 + 1 + (t / 2) % 4503599627370495 := rfl
  have hw : FloatKind.f64.format.signWeight = 9223372036854775808 := by decide +kernel
  have hb : FloatKind.f64.format.binade = 4503599627370496 := by decide +kernel
  have hi : FloatKind.f64.format.infRung = 9218868437227405312 := by decide +kernel
  unfold nan Ieee.Format.read
  rw [e, hw, hb, hi]
  have : ((t % 2) * 9223372036854775808 + 9218868437227405312 + 1 + (t / 2) % 4503599627370495) % 9223372036854775808 = 9218868437227405312 + 1 + (t / 2) % 4503599627370495 := by omega
  simp only [this]
  rw [if_neg (by omega), if_neg (by omega), if_neg (by omega)]
  rfl

/-- One step of float arithmetic, as the model has it: the rounded result, or, where the operation is invalid, some NaN. -/
def Step (op : BinOp) (x y r : Nat) : Prop := floatBits op .f64 x y = some r ∨ (floatBits op .f64 x y = none ∧ nan r = true)

/-- Two results are told apart by no test of the law. -/
def Same (x y : Nat) : Prop := x = y ∨ (nan x = true ∧ nan y = true)

theorem step_same {op : BinOp} {x y r x' y' r' : Nat} (hx : Same x x') (hy : Same y y') (h : Step op x y r) (h' : Step op x' y' r') : Same r r' := by
  have key : ∀ {a b c}, (nan a = true ∨ nan b = true) → Step op a b c → nan c = true := by
    intro a b c hn hs
    have e : floatBits op .f64 a b = none := by
      rcases hn with hn | hn
      · exact bits_nan_left op a b hn
      · exact bits_nan_right op a b hn
    rcases hs with hs | hs
    · rw [e] at hs; cases hs
    · exact hs.2
  rcases hx with rfl | ⟨n1, n2⟩
  · rcases hy with rfl | ⟨n3, n4⟩
    · rcases h with h | ⟨h, hn⟩
      · rcases h' with h' | ⟨h', _⟩
        · rw [h] at h'; exact .inl (Option.some.inj h')
        · rw [h] at h'; cases h'
      · rcases h' with h' | ⟨_, hn'⟩
        · rw [h] at h'; cases h'
        · exact .inr ⟨hn, hn'⟩
    · exact .inr ⟨key (.inr n3) h, key (.inr n4) h'⟩
  · exact .inr ⟨key (.inl n1) h, key (.inl n2) h'⟩

theorem same_refl (x : Nat) : Same x x := .inl rfl
theorem same_nan {x y : Nat} (h : Same x y) : nan x = nan y := by
  rcases h with rfl | ⟨a, b⟩
  · rfl
  · rw [a, b]

theorem gt_same {x y : Nat} (c : Nat) (h : Same x y) : (FloatKind.f64.format.order x c == some .gt) = (FloatKind.f64.format.order y c == some .gt) := by
  rcases h with rfl | ⟨a, b⟩
  · rfl
  · rw [order_nan_left x c a, order_nan_left y c b]

/-! ### A number is never written as a NaN -/

theorem nan_word (neg : Bool) (rung : Nat) (h : rung ≤ FloatKind.f64.format.infRung) : nan (FloatKind.f64.format.word neg rung) = false := by
  have hw : FloatKind.f64.format.signWeight = 9223372036854775808 := by decide +kernel
  have hb : FloatKind.f64.format.binade = 4503599627370496 := by decide +kernel
  have hi : FloatKind.f64.format.infRung = 9218868437227405312 := by decide +kernel
  rw [hi] at h
  unfold nan Ieee.Format.read Ieee.Format.word
  rw [hw, hb, hi]
  have e : (if neg = true then 9223372036854775808 + rung else rung) % 9223372036854775808 = rung := by split <;> omega
  simp only [e]
  by_cases c1 : rung < 4503599627370496
  · rw [if_pos c1]; rfl
  · by_cases c2 : rung < 9218868437227405312
    · rw [if_neg c1, if_pos c2]; rfl
    · rw [if_neg c1, if_neg c2, if_pos (by omega)]; rfl

theorem nan_write (d : Ieee.Datum) (h : d.isNaN = false) : nan (FloatKind.f64.format.write d) = false := by
  cases d with
  | number s m i =>
    unfold Ieee.Format.write Ieee.Format.nearest
    dsimp only
    split
    · exact nan_word _ _ (Nat.zero_le _)
    · exact nan_word _ _ (Nat.min_le_right ..)
  | infinity s => exact nan_word _ _ (Nat.le_refl _)
  | nan s f => simp [Ieee.Datum.isNaN] at h

theorem run_float_any {P : Program} (w : World) (op : BinOp) (hop : op = .add ∨ op = .sub ∨ op = .mul ∨ op = .quo) (t : TypeId) (x y : Nat) :
    ∃ z d, (binOp op t (.float .f64 x) (.float .f64 y)).run P w = .ok (.float .f64 z) (w.drewN d) ∧ Step op x y z := by
  cases h : floatBits op .f64 x y with
  | some r => exact ⟨r, 0, run_float_arith w op t .f64 x y r h, .inl h⟩
  | none =>
    refine ⟨(Question.nanBits .f64 x y).cut (w.tape w.drawn (Question.nanBits .f64 x y)), 1, ?_, .inr ⟨h, nan_drawn x y _⟩⟩
    have hf : (Question.nanBits .f64 x y).forced = false := rfl
    rcases hop with rfl | rfl | rfl | rfl <;> simp only [floatBits] at h <;> (simp [binOp, Op.floatArith, h, hf]; rfl)

theorem wpList_float {P : Program} (w : World) {ops : Array Oper} {rest : List Oper} {o : Oper} {a : Act} {Q : Exit → Act → World → Prop}
    (hg : o.guard = none) (op : BinOp) (hop4 : op = .add ∨ op = .sub ∨ op = .mul ∨ op = .quo) (t u : TypeId) (l r : Operand) (hop : o.op = Op.binOp op t l r u) (x y : Nat) (hl : a.eval l = .float .f64 x) (hr : a.eval r = .float .f64 y)
    (hK : ∀ z d, Step op x y z → wpList P ops Q rest (a.put o.dst (.float .f64 z)) (w.drewN d)) :
    wpList P ops Q (o :: rest) a w := by
  refine wpList_plain hg fun K' hK' => ?_
  obtain ⟨z, d, hrun, hs⟩ := run_float_any (P := P) w op hop4 t x y
  unfold Oper.wp
  rcases hop4 with rfl | rfl | rfl | rfl <;> simp [execOp, eqGuard, hop, hl, hr, hrun, Result.andThen] <;> exact hK' _ _ (hK z d hs)

end Go.Proofs.Ybulkdloo.Fl
