import Derived.Test.YbulkdoywBud
namespace Go.Proofs.Ybulkdoyw
open Go.RowKit Go.MuLone

/-- The checker's cell: not yet looked at, or itself. -/
def ChkOk (b : Nat) (chk : Value) : Prop := chk = .int .u64 0 ∨ chk = .pointer (some ⟨b, 10, none⟩)

set_option maxHeartbeats 400000 in
theorem broad24 (w wr : World) (limit lk held : Int) (chk : Value) (hk : ChkOk w.heap.size chk) (h : Bud w limit lk held chk wr) :
    Calls Yba.prog 24 #[.pointer (some ⟨w.heap.size, 4, none⟩)] wr fun e w' => e = .returned (.tuple #[]) ∧ ∃ chk', ChkOk w.heap.size chk' ∧ Bud w limit lk held chk' w' := by
  rcases hk with rfl | rfl
  · have h1 := h.setChk (.pointer (some ⟨w.heap.size, 10, none⟩))
    have e1 := check_first h.c10 (h.fz 10)
    have e2 := notifyAll_none h1.c5 h1.c6
    go_enter Yba.func24, Yba.ntmps24
    go_wp2
    go_end0
    exact ⟨rfl, _, .inr rfl, h1⟩
  · have e1 := check_again h.c10
    have e2 := notifyAll_none h.c5 h.c6
    go_enter Yba.func24, Yba.ntmps24
    go_wp2
    go_end0
    exact ⟨rfl, _, .inr rfl, h⟩

set_option maxHeartbeats 400000 in
theorem give18 (w wr : World) (limit held size : Int) (chk : Value) (hs : -9223372036854775808 ≤ held - size ∧ held - size ≤ 9223372036854775807) (hk : ChkOk w.heap.size chk) (h : Bud w limit 0 held chk wr) :
    Calls Yba.prog 18 #[.pointer (some ⟨w.heap.size, 0, none⟩), .int .i64 size] wr fun e w' => e = .returned (.tuple #[]) ∧ ∃ chk', ChkOk w.heap.size chk' ∧ Bud w limit 0 (held - size) chk' w' := by
  have h1 := h.setLock 1
  have d3 := h1.c3
  have f3 := h1.fz 3
  have h2 := h1.setHeld (held - size)
  go_enter Yba.func18, Yba.ntmps18
  go_wp2_with (go_at_call 20; refine (lock_free Yba.muLib ⟨w.heap.size, 1, none⟩ _ h.c1 (h.fz 1)).mono ?_; rintro e w' ⟨rfl, rfl⟩)
  refine (broad24 w _ limit 1 (held - size) chk hk h2).mono ?_
  rintro e w3 ⟨rfl, chk', hk', h3⟩
  go_wp2_with fail
  refine (unlock_held Yba.muLib ⟨w.heap.size, 1, none⟩ _ h3.c1 (h3.fz 1)).mono ?_
  rintro e w' ⟨rfl, rfl⟩
  go_wp2_with fail
  go_end0
  exact ⟨rfl, chk', hk', h3.setLock 0⟩

set_option maxHeartbeats 400000 in
theorem hold23 (w wr : World) (limit lk held size : Int) (chk : Value) (hs : -9223372036854775808 ≤ held + size ∧ held + size ≤ 9223372036854775807) (hB : Bud w limit lk held chk wr) :
    Calls Yba.prog 23 #[.pointer (some ⟨w.heap.size, 0, none⟩), .int .i64 size] wr fun e w' => e = .returned (.bool (decide (held + size ≤ limit))) ∧ Bud w limit lk (if held + size ≤ limit then held + size else held) chk w' := by
  have d0 := hB.c0
  have d3 := hB.c3
  have f3 := hB.fz 3
  by_cases hc : limit < held + size
  · go_enter Yba.func23, Yba.ntmps23
    go_wp2
    go_quiet (fail)
    go_wp2
    go_ret
    exact ⟨rfl, hB.drewN nq⟩
  · go_enter Yba.func23, Yba.ntmps23
    go_wp2
    go_quiet (fail)
    go_wp2
    go_ret
    exact ⟨rfl, (hB.drewN nq).setHeld _⟩

set_option maxHeartbeats 400000 in
theorem take17 (w wr : World) (limit held size : Int) (chk : Value) (hs : -9223372036854775808 ≤ held + size ∧ held + size ≤ 9223372036854775807) (hB : Bud w limit 0 held chk wr) :
    Calls Yba.prog 17 #[.pointer (some ⟨w.heap.size, 0, none⟩), .int .i64 size] wr fun e w' => e = .returned (.bool (decide (held + size ≤ limit))) ∧ Bud w limit 0 (if held + size ≤ limit then held + size else held) chk w' := by
  have h1 := hB.setLock 1
  have hh := hold23 w _ limit 1 held size chk hs h1
  generalize decide (held + size ≤ limit) = ok at hh ⊢
  generalize (if held + size ≤ limit then held + size else held) = nh at hh ⊢
  go_enter_defers Yba.func17, Yba.ntmps17
  go_wp2_with (go_at_call 20; refine (lock_free Yba.muLib ⟨w.heap.size, 1, none⟩ _ hB.c1 (hB.fz 1)).mono ?_; rintro e w' ⟨rfl, rfl⟩)
  refine hh.mono ?_
  rintro e w3 ⟨rfl, h2⟩
  go_wp2_with fail
  refine leaves_cons (f := 16) (args := #[.pointer (some ⟨w.heap.size, 1, none⟩)]) (by simp) (by simp [go_sem]) ?_
  refine (unlock_deferred Yba.muLib ⟨w.heap.size, 1, none⟩ .returning _ h2.c1 (h2.fz 1)).mono ?_
  rintro e u' w'' ⟨rfl, rfl, rfl⟩
  exact ⟨_, results_tmp rfl _ _ _, by simp, h2.setLock 0⟩
end Go.Proofs.Ybulkdoyw
