import Derived.Test.YbulkdouoWorld
import Derived.WalkKit
import Derived.WalkSpells
import Derived.WalkLawsBesides
import Derived.Deep.QuietTactic
import Derived.BigQuiet
namespace Go.Proofs.Ybulkdouo
open Go.RowKit

set_option maxHeartbeats 400000 in
theorem current_self (bo bm : Nat) (inc seq arr : Int) (pa va : Option Addr) (pl pc vl vc : Nat) (nb : Bool) (w : World)
    (h0 : w.cell? ⟨bo, 0, none⟩ = some (.pointer (some ⟨bm, 0, none⟩))) (h1 : w.cell? ⟨bm, 0, none⟩ = some (.int .i64 1)) :
    Calls Yba.prog 7 #[.pointer (some ⟨bo, 0, none⟩), .agg #[.int .i64 1, .int .u64 inc, .int .u64 seq, .slice pa pl pc, .slice va vl vc, .int .u64 arr, .bool nb]] w fun e w' =>
      e = .returned (.bool true) ∧ Below w.heap.size w w' := by
  have n0 : bo < w.heap.size := World.block_lt_of_cell? w _ h0
  have n1 : bm < w.heap.size := World.block_lt_of_cell? w _ h1
  go_enter Yba.func7, Yba.ntmps7
  go_wp2
  go_quiet (fail)
  go_wp2
  go_ret
  exact ⟨by simp, below_drewN ((Below.refl _ w).alloc (Nat.le_refl _) _) _⟩

set_option maxHeartbeats 400000 in
theorem progressed_none (bm : Nat) (w : World) (h : w.cell? ⟨bm, 23, none⟩ = some (.slice none 0 0)) :
    Calls Yba.prog 9 #[.pointer (some ⟨bm, 0, none⟩)] w fun e w' => e = .returned (.int .u64 18446744073709551615) ∧ w' = w := by
  go_enter Yba.func9, Yba.ntmps9
  go_wp2
  refine wp_loop_rounds 1 ?_
  rw [rounds_succ]
  go_wp2
  go_ret
  exact ⟨rfl, rfl⟩

set_option maxHeartbeats 400000 in
set_option maxRecDepth 100000 in
theorem forget_none (bs : Nat) (n : Int) (w : World) (h : w.cell? ⟨bs, 11, none⟩ = some (.slice none 0 0)) (f : w.frozen? ⟨bs, 11, none⟩ = false) :
    Calls Yba.prog 8 #[.pointer (some ⟨bs, 0, none⟩), .int .u64 n] w fun e w' => e = .returned (.tuple #[]) ∧ w' = w := by
  have hcl : ∀ w, (Builtin.clear_ #[110] 0 #[.slice none 0 0]).run Yba.prog w = .ok (.tuple #[]) w := fun _ => by kernel_rfl
  go_enter Yba.func8, Yba.ntmps8
  go_wp2
  refine wp_loop_rounds 1 ?_
  rw [rounds_succ]
  go_wp2
  go_end0
  exact ⟨rfl, setCell_self h⟩
end Go.Proofs.Ybulkdouo
