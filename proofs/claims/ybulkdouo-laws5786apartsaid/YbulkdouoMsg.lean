import Derived.Test.YbulkdouoProg
import Derived.WalkKit
import Derived.WalkSpells
import Derived.WalkLawsBesides
namespace Go.Proofs.Ybulkdouo
open Go.RowKit

set_option maxHeartbeats 400000 in
theorem msg_any (s inc seq arr : Int) (pa : Option Addr) (pl pc : Nat) (nb : Bool) (w : World) (h0 : 0 ≤ s) :
    Calls Yba.prog 4 #[.agg #[.int .u8 s, .int .u64 inc, .int .u64 seq, .int .u64 arr, .slice pa pl pc, .bool nb]] w fun e w' =>
      e = .returned (.agg #[.int .i64 (s % 2), .int .u64 inc, .int .u64 seq, .slice pa pl pc, .slice none 0 0, .int .u64 arr, .bool nb]) ∧ Below w.heap.size w w' := by
  by_cases hs : s % 2 = 1
  · have H : Hid (s % 2 = 1) := hs
    have hb : (s % 2 == 1) = true := by simp [hs]
    clear hs
    go_enter Yba.func4, Yba.ntmps4
    go_wp2
    rw [H.out]
    exact bodyPost_ret (v := .agg #[.int .i64 1, .int .u64 inc, .int .u64 seq, .slice pa pl pc, .slice none 0 0, .int .u64 arr, .bool nb]) (by simp [results, Yba.results4, go_sem]) rfl ⟨rfl, (((Below.refl _ _).alloc (Nat.le_refl _) _).alloc (by simp) _)⟩
  · have H : Hid (s % 2 = 0) := by show s % 2 = 0; omega
    have hb : (s % 2 == 1) = false := by simp [hs]
    clear hs
    go_enter Yba.func4, Yba.ntmps4
    go_wp2
    rw [H.out]
    exact bodyPost_ret (v := .agg #[.int .i64 0, .int .u64 inc, .int .u64 seq, .slice pa pl pc, .slice none 0 0, .int .u64 arr, .bool nb]) (by simp [results, Yba.results4, go_sem]) rfl ⟨rfl, (((Below.refl _ _).alloc (Nat.le_refl _) _).alloc (by simp) _)⟩
end Go.Proofs.Ybulkdouo
