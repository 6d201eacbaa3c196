import Derived.Test.YbulkdoywBud
import Derived.LaidEql
namespace Go.Proofs.Ybulkdoyw
open Go.RowKit Go.MuLone

theorem equalIn_mu (w : World) (k b : Nat) : (Op.equalIn (k + 1 + 1) 51 (.iface 61 (.pointer (some ⟨b, 1, none⟩))) (.iface 61 (.pointer (some ⟨b, 1, none⟩)))).run Yba.prog w = .ok true w := by
  simp [Op.equalIn, run_underlying Yba.underlying51, run_underlying Yba.underlying61, run_sameAddr_same, show Yba.t61.comparable = true from rfl]
theorem neq_mu (w : World) (b : Nat) : (binOp .neq 51 (.iface 61 (.pointer (some ⟨b, 1, none⟩))) (.iface 61 (.pointer (some ⟨b, 1, none⟩)))).run Yba.prog w = .ok (.bool false) w := by
  simp only [binOp]
  simp [Op.equal, Op.maxDepth, equalIn_mu w 9998]

set_option maxRecDepth 100000 in
set_option maxHeartbeats 2000000 in
theorem cwhole_walk (limit held : Int) (hr : -9223372036854775808 ≤ limit ∧ limit ≤ 9223372036854775807) (w : World) :
    Calls Yba.prog 5 #[.int .i64 limit, .int .i64 held] w fun e w' => e = .returned (.bool true) ∧ Below w.heap.size w w' := by
  go_enter Yba.func5, Yba.ntmps5
  go_wp2_with fail
  refine (new12 limit w).mono ?_
  rintro e w1 ⟨rfl, h1⟩
  have f3 := h1.fz 3
  have h2 := h1.setHeld held
  have d3 := h1.c3
  go_wp2_with fail
  refine (over13 w _ limit held _ hr h2).mono ?_
  rintro e w2 ⟨rfl, h3⟩
  clear h1 h2 f3 d3
  go_wp2_with fail
  refine (half14 limit hr _).mono ?_
  rintro e w3 ⟨rfl, rfl⟩
  have d0 := h3.c0
  have d3 := h3.c3
  have d4 := h3.c4
  have f1 := h3.fz 1
  go_wp2_with fail
  have hne := neq_mu
  go_quiet (fail)
  go_wp2_with fail
  have h4 := h3.drewN nq
  refine (try_free w.heap.size 1 _ h4.c1 (h4.fz 1)).mono ?_
  rintro e w4 ⟨rfl, rfl⟩
  have h5 := h4.setLock 1
  go_wp2_with fail
  refine (unlock_held Yba.muLib ⟨w.heap.size, 1, none⟩ _ h5.c1 (h5.fz 1)).mono ?_
  rintro e w4 ⟨rfl, rfl⟩
  go_wp2_with fail
  go_ret
  exact ⟨rfl, (h5.setLock 0).bel⟩
end Go.Proofs.Ybulkdoyw
