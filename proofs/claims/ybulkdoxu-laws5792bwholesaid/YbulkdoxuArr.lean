import Derived.Test.YbulkdoxuProg
import Derived.WalkKit
import Derived.WalkSpells
import Derived.WalkLawsBesides
import Derived.Deep.WholeRow
import Derived.Deep.QuietTactic
import Derived.BigQuiet
namespace Go.Proofs.Ybulkdoxu
open Go.RowKit

/-- Two arrays of the same cells are equal. -/
theorem run_equalIn_array_self {P : Program} (w : World) (d : Nat) (t e : TypeId) (n : Nat) (xs : Array Value) (ht : P.underlying t = some (.array n e))
    (hs : ∀ w, (Go.sizeOf e).run P w = .ok 1 w) (ha : ∀ w, (isAgg e).run P w = .ok false w) (hx : ∀ i, i < n → ∃ v, xs[i]? = some v ∧ ∀ w, (Op.equalIn d e v v).run P w = .ok true w) :
    (Op.equalIn (d + 1) t (.agg xs) (.agg xs)).run P w = .ok true w := by
  simp only [Op.equalIn, Sem.run_bind, run_underlying ht, Result.andThen_ok, hs]
  rw [Std.Legacy.Range.forIn_eq_forIn_range']
  have hl : ∀ i ∈ List.range' (0 : Nat) n, i < n := fun i hi => by simpa using hi
  simp only [Std.Legacy.Range.size, Nat.sub_zero, Nat.add_sub_cancel, Nat.div_one]
  generalize List.range' (0 : Nat) n = l at hl ⊢
  induction l generalizing w with
  | nil => simp
  | cons i l ih =>
    obtain ⟨v, hv, hq⟩ := hx i (hl i (by simp))
    have hp : ∀ w, (part e xs i).run P w = .ok v w := fun w => by simp [part, ha, hv]
    simp only [List.forIn_cons, Sem.run_bind, Nat.mul_one, hp, hq, Result.andThen_ok, Bool.not_true, Bool.false_eq_true, if_false, Sem.run_pure]
    have := ih w (fun j hj => hl j (by simp [hj]))
    simpa only [Sem.run_bind, Nat.mul_one] using this
end Go.Proofs.Ybulkdoxu
