import Derived.Test.YbulkdouoProg
import Derived.WalkKit
import Derived.WalkSpells
import Derived.WalkLawsBesides
namespace Go.Proofs.Ybulkdouo
open Go.RowKit

/-- A []byte value that can be made a string in w, and in every world that holds what w held. -/
def PayOk (w : World) (v : Value) : Prop := ∃ s : ByteArray, ∀ w', Below w.heap.size w w' → (convert 98 9 v).run Yba.prog w' = .ok (.string s) w'

theorem PayOk.later {w w1 : World} {v : Value} (h : PayOk w v) (hb : Below w.heap.size w w1) : PayOk w1 v := by
  obtain ⟨s, hs⟩ := h
  exact ⟨s, fun w' h' => hs w' (hb.trans (h'.mono hb.size))⟩

set_option maxHeartbeats 400000 in
theorem bytesEq_same (pa : Option Addr) (pl pc : Nat) (w : World) (hp : PayOk w (.slice pa pl pc)) :
    Calls Yba.prog 10 #[.slice pa pl pc, .slice pa pl pc] w fun e w' => e = .returned (.bool true) ∧ w' = w := by
  obtain ⟨s, hs⟩ := hp
  have h0 := hs w (Below.refl _ _)
  clear hs
  go_enter Yba.func10, Yba.ntmps10
  go_wp2
  go_ret
  exact ⟨by simp, rfl⟩

set_option maxHeartbeats 1000000 in
theorem eq_same (s inc seq arr : Int) (pa : Option Addr) (pl pc : Nat) (nb : Bool) (w : World) (hp : PayOk w (.slice pa pl pc)) :
    Calls Yba.prog 6 #[.agg #[.int .i64 s, .int .u64 inc, .int .u64 seq, .slice pa pl pc, .slice none 0 0, .int .u64 arr, .bool nb], .agg #[.int .i64 s, .int .u64 inc, .int .u64 seq, .slice pa pl pc, .slice none 0 0, .int .u64 arr, .bool nb]] w fun e w' =>
      e = .returned (.bool true) ∧ Below w.heap.size w w' := by
  have hq := hp.later (((Below.refl _ w).alloc (Nat.le_refl _) (.cells #[.int .i64 s, .int .u64 inc, .int .u64 seq, .slice pa pl pc, .slice none 0 0, .int .u64 arr, .bool nb] 114)).alloc (by simp) (.cells #[.int .i64 s, .int .u64 inc, .int .u64 seq, .slice pa pl pc, .slice none 0 0, .int .u64 arr, .bool nb] 114))
  clear hp
  have e1 := fun w => Lib.run_eql_slice_nil (P := Yba.prog) w 98 5 pa pl pc 0 0 Yba.underlying98
  go_enter Yba.func6, Yba.ntmps6
  go_wp2_with fail
  refine (bytesEq_same pa pl pc _ hq).mono ?_
  rintro e w' ⟨rfl, rfl⟩
  go_wp2
  go_ret
  exact ⟨by simp, ((Below.refl _ w).alloc (Nat.le_refl _) _).alloc (by simp) _⟩
end Go.Proofs.Ybulkdouo
