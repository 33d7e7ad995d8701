/- '*' and '/' on floats where their value doesn't matter: whatever comes of it is a float; where the language leaves a NaN's bits open, the tape is asked. -/
import Derived.Laws.FloatArith
import Derived.WalkLawsBesides
import Derived.OwnWalk
import Derived.Deep.Draws
import Derived.WalkKit
namespace Go.Proofs.YtmpgbakkpbmpiaaDoor.Flt
open Go.RowKit
section
variable {P : Program} (w : World)
theorem run_mul_any (t : TypeId) (k : FloatKind) (x y : Nat) : ∃ r m, (binOp .mul t (.float k x) (.float k y)).run P w = .ok (.float k r) (w.drewN m) := by
  cases h : k.format.mul x y with
  | some r => exact ⟨r, 0, run_float_arith w .mul t k x y r h⟩
  | none =>
    by_cases hf : (Question.nanBits k x y).forced = true
    · exact ⟨0, 0, by simp [binOp, Op.floatArith, h, hf]; rfl⟩
    · exact ⟨_, 1, by simp [binOp, Op.floatArith, h, hf]; exact ⟨rfl, rfl⟩⟩
theorem wp_mul_any {o : Oper} {a : Act} {K : Act → World → Prop} {Q : Exit → Act → World → Prop} (x y : Operand) (t t' : TypeId) (k : FloatKind) (p q : Nat)
    (ho : o.op = .binOp .mul t x y t') (hx : a.eval x = .float k p) (hy : a.eval y = .float k q) (h : ∀ r m, K (a.put o.dst (.float k r)) (w.drewN m)) : o.wp P a w K Q := by
  obtain ⟨r, m, hr⟩ := run_mul_any (P := P) w t k p q
  unfold Oper.wp execOp
  simp only [ho, hx, hy, Sem.run_bind, eqGuard]
  simp [hr]
  exact h r m
theorem wpList_mul_any {ops : Array Oper} {rest : List Oper} {o : Oper} {a : Act} {Q : Exit → Act → World → Prop} (hgd : o.guard = none) (x y : Operand) (t t' : TypeId) (k : FloatKind) (p q : Nat)
    (ho : o.op = .binOp .mul t x y t') (hx : a.eval x = .float k p) (hy : a.eval y = .float k q) (h : ∀ r m, wpList P ops Q rest (a.put o.dst (.float k r)) (w.drewN m)) : wpList P ops Q (o :: rest) a w :=
  wpList_plain hgd fun _ hK => wp_mul_any w x y t t' k p q ho hx hy fun r m => hK _ _ (h r m)
theorem run_quo_any (t : TypeId) (k : FloatKind) (x y : Nat) : ∃ r m, (binOp .quo t (.float k x) (.float k y)).run P w = .ok (.float k r) (w.drewN m) := by
  cases h : k.format.div x y with
  | some r => exact ⟨r, 0, run_float_arith w .quo t k x y r h⟩
  | none =>
    by_cases hf : (Question.nanBits k x y).forced = true
    · exact ⟨0, 0, by simp [binOp, Op.floatArith, h, hf]; rfl⟩
    · exact ⟨_, 1, by simp [binOp, Op.floatArith, h, hf]; exact ⟨rfl, rfl⟩⟩
theorem wp_quo_any {o : Oper} {a : Act} {K : Act → World → Prop} {Q : Exit → Act → World → Prop} (x y : Operand) (t t' : TypeId) (k : FloatKind) (p q : Nat)
    (ho : o.op = .binOp .quo t x y t') (hx : a.eval x = .float k p) (hy : a.eval y = .float k q) (h : ∀ r m, K (a.put o.dst (.float k r)) (w.drewN m)) : o.wp P a w K Q := by
  obtain ⟨r, m, hr⟩ := run_quo_any (P := P) w t k p q
  unfold Oper.wp execOp
  simp only [ho, hx, hy, Sem.run_bind, eqGuard]
  simp [hr]
  exact h r m
theorem wpList_quo_any {ops : Array Oper} {rest : List Oper} {o : Oper} {a : Act} {Q : Exit → Act → World → Prop} (hgd : o.guard = none) (x y : Operand) (t t' : TypeId) (k : FloatKind) (p q : Nat)
    (ho : o.op = .binOp .quo t x y t') (hx : a.eval x = .float k p) (hy : a.eval y = .float k q) (h : ∀ r m, wpList P ops Q rest (a.put o.dst (.float k r)) (w.drewN m)) : wpList P ops Q (o :: rest) a w :=
  wpList_plain hgd fun _ hK => wp_quo_any w x y t t' k p q ho hx hy fun r m => hK _ _ (h r m)
end
end Go.Proofs.YtmpgbakkpbmpiaaDoor.Flt
