import Derived.Test.YbulkdoywScript
import Derived.Laws.LoneSync
namespace Go.Proofs.Ybulkdoyw
open Go.RowKit

set_option maxHeartbeats 400000 in
/-- An atomic.Bool that holds 0 loads as false. -/
theorem load10 (b off : Nat) (w : World) (h : w.cell? ⟨b, off, none⟩ = some (.int .u32 0)) :
    Calls Yba.prog 10 #[.pointer (some ⟨b, off, none⟩)] w fun e w' => e = .returned (.bool false) ∧ w' = w := by
  have hl := run_call_load (P := Yba.prog) Yba.func19 (by kernel_rfl) (by kernel_rfl) (by kernel_rfl) .u32 (by kernel_rfl) h
  go_enter Yba.func10, Yba.ntmps10
  go_wp2
  go_ret
  exact ⟨rfl, rfl⟩

theorem heap_drewN (w : World) : ∀ m, (w.drewN m).heap = w.heap
  | 0 => rfl
  | m + 1 => by simp [World.drewN]

/-- A peer's cells, at a block. -/
theorem pcell {w : World} {bp : Nat} {id : Int} {addr : ByteArray} {fnd : Value} {grace : Int} {down : Bool} (h : w.heap[bp]? = some (.cells (pcells id addr fnd grace down) 39 (0, 0))) (k : Nat) :
    w.cell? ⟨bp, k, none⟩ = (pcells id addr fnd grace down)[k]? := by simp [World.cell?, h]

theorem equalIn_chanNil (w : World) (k : Nat) : (Op.equalIn (k + 1) 30 (.chan none) (.chan none)).run Yba.prog w = .ok true w := by simp [Op.equalIn, run_underlying Yba.underlying30]
theorem neq_chanNil (w : World) : (binOp .neq 30 (.chan none) (.chan none)).run Yba.prog w = .ok (.bool false) w := by
  simp only [binOp]
  simp [Op.equal, Op.maxDepth, equalIn_chanNil w 9999]

theorem boolRow_nil (w : World) : BoolRow w none [] := fun i x h => by simp at h
theorem boolRow_one (w : World) (d : Bool) : BoolRow (w.alloc (.cells #[.bool d] 4)) (some ⟨w.heap.size, 0, none⟩) [d] := fun i x h => by
  rcases i with _ | i
  · simp only [List.getElem?_cons_zero, Option.some.injEq] at h
    subst h
    exact ⟨_, _, rfl, by simp⟩
  · simp at h

set_option maxRecDepth 100000 in
set_option maxHeartbeats 2000000 in
/-- Nobody hears. -/
theorem whole_nil (was down : Bool) (id : Int) (addr : ByteArray) (grace : Int) (w : World) :
    Calls Yba.prog 3 #[.bool false, .bool was, .bool down, .int .i64 id, .string addr, .int .i64 grace] w fun e w' => e = .returned (.bool true) ∧ Below w.heap.size w w' := by
  have T := told_start w id addr .nilFunc grace was
  have n1 := neq_nilFunc
  have n2 := neq_chanNil
  go_enter Yba.func3, Yba.ntmps3
  go_wp2_with fail
  refine (tell_nil (w.heap.size + 1) down _ T.cf).mono ?_
  rintro e wr ⟨rfl, hwr⟩
  rw [← show wr = _ from hwr] at T
  clear hwr
  have cl := T.cl
  have cd := T.cd
  go_wp2_with fail
  refine (aeq_same none none 0 0 [] _ (boolRow_nil _) (boolRow_nil _) (by simp)).mono ?_
  rintro e w' ⟨rfl, m, rfl⟩
  have hp : (wr.drewN m).heap[w.heap.size + 1]? = some (.cells (pcells id addr .nilFunc grace was) 39 (0, 0)) := by rw [heap_drewN]; exact T.peer
  have hb : Below w.heap.size w (wr.drewN m) := below_drewN T.bel _
  clear T cl cd
  generalize wr.drewN m = wz at *
  have c4 := pcell hp 4
  have c5 := pcell hp 5
  have c6 := pcell hp 6
  have c7 := pcell hp 7
  have c8 := pcell hp 8
  have c9 := pcell hp 9
  have c10 := pcell hp 10
  have c11 := pcell hp 11
  have c12 := pcell hp 12
  simp [pcells] at c4 c5 c6 c7 c8 c9 c10 c11 c12
  go_wp2_with (go_at_call 10; refine (load10 _ _ _ (by assumption)).mono ?_; rintro e w' ⟨rfl, rfl⟩)
  go_ret
  exact ⟨by simp, hb⟩

set_option maxRecDepth 100000 in
set_option maxHeartbeats 2000000 in
/-- Told what it was. -/
theorem whole_same (d : Bool) (id : Int) (addr : ByteArray) (grace : Int) (w : World) :
    Calls Yba.prog 3 #[.bool true, .bool d, .bool d, .int .i64 id, .string addr, .int .i64 grace] w fun e w' => e = .returned (.bool true) ∧ Below w.heap.size w w' := by
  have T := told_start w id addr (.func (.func 7) #[] #[.pointer (some ⟨w.heap.size, 0, none⟩)]) grace d
  have n1 := neq_func
  have n2 := neq_chanNil
  have hmf : ∀ (fn : Fn) (first cap : Array Value) (w : World), (Instr.makeFunc fn first cap).run Yba.prog w = .ok (.func fn first cap) w := fun _ _ _ _ => rfl
  go_enter Yba.func3, Yba.ntmps3
  go_wp2_with fail
  refine (tell_same (w.heap.size + 1) _ _ _ d _ T.cf T.cd).mono ?_
  rintro e wr ⟨rfl, hwr⟩
  rw [← show wr = _ from hwr] at T
  clear hwr
  have cl := T.cl
  have cd := T.cd
  go_wp2_with fail
  refine (aeq_same none none 0 0 [] _ (boolRow_nil _) (boolRow_nil _) (by simp)).mono ?_
  rintro e w' ⟨rfl, m, rfl⟩
  have hp : (wr.drewN m).heap[w.heap.size + 1]? = some (.cells (pcells id addr (.func (.func 7) #[] #[.pointer (some ⟨w.heap.size, 0, none⟩)]) grace d) 39 (0, 0)) := by rw [heap_drewN]; exact T.peer
  have hb : Below w.heap.size w (wr.drewN m) := below_drewN T.bel _
  clear T cl cd
  generalize wr.drewN m = wz at *
  have c4 := pcell hp 4
  have c5 := pcell hp 5
  have c6 := pcell hp 6
  have c7 := pcell hp 7
  have c8 := pcell hp 8
  have c9 := pcell hp 9
  have c10 := pcell hp 10
  have c11 := pcell hp 11
  have c12 := pcell hp 12
  simp [pcells] at c4 c5 c6 c7 c8 c9 c10 c11 c12
  go_wp2_with (go_at_call 10; refine (load10 _ _ _ (by assumption)).mono ?_; rintro e w' ⟨rfl, rfl⟩)
  go_ret
  exact ⟨by simp, hb⟩

set_option maxRecDepth 100000 in
set_option maxHeartbeats 2000000 in
/-- A change is heard. -/
theorem whole_change (was down : Bool) (hne : was ≠ down) (id : Int) (addr : ByteArray) (grace : Int) (w : World) :
    Calls Yba.prog 3 #[.bool true, .bool was, .bool down, .int .i64 id, .string addr, .int .i64 grace] w fun e w' => e = .returned (.bool true) ∧ Below w.heap.size w w' := by
  have T := told_start w id addr (.func (.func 7) #[] #[.pointer (some ⟨w.heap.size, 0, none⟩)]) grace was
  have n1 := neq_func
  have n2 := neq_chanNil
  have hmf : ∀ (fn : Fn) (first cap : Array Value) (w : World), (Instr.makeFunc fn first cap).run Yba.prog w = .ok (.func fn first cap) w := fun _ _ _ _ => rfl
  have hnb : (!(was == down)) = true := by cases was <;> cases down <;> simp_all
  go_enter Yba.func3, Yba.ntmps3
  go_wp2_with fail
  refine (tell7 w _ id addr grace was down _ [] hne T (by simp)).mono ?_
  clear T
  rintro e wr ⟨rfl, v, T⟩
  obtain ⟨la, lc, rfl, hlr⟩ := boolRow_of_owns T.own
  have cl := T.cl
  have cd := T.cd
  have hlt := T.lt
  have b1 := (Below.refl wr.heap.size wr).alloc (Nat.le_refl _) (.cells #[.bool down] 4)
  have cl1 := cell_later b1 cl
  have cd1 := cell_later b1 cd
  have hp1 : (wr.alloc (.cells #[.bool down] 4)).heap[w.heap.size + 1]? = some (.cells (pcells id addr (.func (.func 7) #[] #[.pointer (some ⟨w.heap.size, 0, none⟩)]) grace down) 39 (0, 0)) := (Below.heap_alloc _ _ _ (by omega)).trans T.peer
  have hb1 := T.bel.alloc (by omega) (.cells #[.bool down] 4)
  have r1 := hlr.later b1
  have r2 := boolRow_one wr down
  go_wp2_with fail
  refine (aeq_same la (some ⟨wr.heap.size, 0, none⟩) lc 1 [down] _ r1 r2 (by simp)).mono ?_
  rintro e w' ⟨rfl, m, rfl⟩
  have hp : ((wr.alloc (.cells #[.bool down] 4)).drewN m).heap[w.heap.size + 1]? = some (.cells (pcells id addr (.func (.func 7) #[] #[.pointer (some ⟨w.heap.size, 0, none⟩)]) grace down) 39 (0, 0)) := by rw [heap_drewN]; exact hp1
  have hb : Below w.heap.size w ((wr.alloc (.cells #[.bool down] 4)).drewN m) := below_drewN hb1 _
  clear T cl cd cl1 cd1 hlr r1 r2 hp1 hb1 b1 hlt
  generalize (wr.alloc (.cells #[.bool down] 4)).drewN m = wz at *
  have c4 := pcell hp 4
  have c5 := pcell hp 5
  have c6 := pcell hp 6
  have c7 := pcell hp 7
  have c8 := pcell hp 8
  have c9 := pcell hp 9
  have c10 := pcell hp 10
  have c11 := pcell hp 11
  have c12 := pcell hp 12
  simp [pcells] at c4 c5 c6 c7 c8 c9 c10 c11 c12
  go_wp2_with (go_at_call 10; refine (load10 _ _ _ (by assumption)).mono ?_; rintro e w' ⟨rfl, rfl⟩)
  go_ret
  exact ⟨by simp, hb⟩
end Go.Proofs.Ybulkdoyw
