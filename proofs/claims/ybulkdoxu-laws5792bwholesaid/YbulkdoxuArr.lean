import Derived.Test.YbulkdoxuProg
import Derived.WalkKit
import Derived.WalkSpells
import Derived.WalkLawsBesides
import Derived.Deep.WholeRow
import Derived.Deep.QuietTactic
import Derived.BigQuiet
namespace Go.Proofs.Ybulkdoxu
open Go.RowKit

/-- Two arrays of the same cells are equal. -/
theorem run_equalIn_array_self {P : Program} (w : World) (d : Nat) (t e : TypeId) (n : Nat) (xs : Array Value) (ht : P.underlying t = some (.array n e))
    (hs : ∀ w, (Go.sizeOf e).run P w = .ok 1 w) (ha : ∀ w, (isAgg e).run P w = .ok false w) (hx : ∀ i, i < n → ∃ v, xs[i]? = some v ∧ ∀ w, (Op.equalIn d e v v).run P w = .ok true w) :
    (Op.equalIn (d + 1) t (.agg xs) (.agg xs)).run P w = .ok true w := by
  simp only [Op.equalIn]
  simp [run_underlying ht, hs]
  have hl : ∀ i ∈ List.range' (0 : Nat) n, i < n := fun i hi => by simpa using hi
  generalize List.range' (0 : Nat) n = l at hl ⊢
  induction l generalizing w with
  | nil => simp
  | cons i l ih =>
    obtain ⟨v, hv, hq⟩ := hx i (hl i (by simp))
    have hp : ∀ w, (part e xs i).run P w = .ok v w := fun w => by simp [part, ha, hv]
    have := ih w (fun j hj => hl j (by simp [hj]))
    simp [hp, hq]
    exact this
end Go.Proofs.Ybulkdoxu
