import Derived.Test.YbulkdouoWorld
import Derived.Test.YbulkdouoCur
import Derived.Deep.RegionHeld3
namespace Go.Proofs.Ybulkdouo
open Go.RowKit

/-- An order.Message (its Vector nil). -/
structure Msg where
  s : Int
  inc : Int
  seq : Int
  arr : Int
  pa : Option Addr
  pl : Nat
  pc : Nat
  nb : Bool

def mcells (m : Msg) : List Value := [.int .i64 m.s, .int .u64 m.inc, .int .u64 m.seq, .slice m.pa m.pl m.pc, .slice none 0 0, .int .u64 m.arr, .bool m.nb]

theorem length_mcells (m : Msg) : (mcells m).length = 7 := rfl
theorem length_flat (ms : List Msg) : (ms.flatMap mcells).length = ms.length * 7 := by
  induction ms with
  | nil => rfl
  | cons m ms ih => simp only [List.flatMap_cons, List.length_append, ih, length_mcells, List.length_cons]; omega
theorem flat_get (ms : List Msg) (j i : Nat) (m : Msg) (hj : ms[j]? = some m) (hi : i < 7) : (ms.flatMap mcells)[j * 7 + i]? = (mcells m)[i]? := by
  induction ms generalizing j with
  | nil => simp at hj
  | cons a ms ih =>
    rw [List.flatMap_cons]
    cases j with
    | zero =>
      simp only [List.getElem?_cons_zero, Option.some.injEq] at hj
      subst hj
      rw [List.getElem?_append_left (by rw [length_mcells]; omega)]
      congr 1
      omega
    | succ j =>
      simp only [List.getElem?_cons_succ] at hj
      rw [List.getElem?_append_right (by rw [length_mcells]; omega), length_mcells, ← ih j hj]
      congr 1
      omega

/-- A sequencerOrdering's cells: its member, its rule, due, held, until, the batch's bytes, numbered; all else as new. -/
def ocells (m r : Value) (due : Bool) (hv uv bv : Value) (num : Int) : Array Value :=
  #[m, r, .int .u64 0, .int .i64 0, .int .u64 0, .bool false, .bool false, .bool false, .slice none 0 0,
    .int .u64 0, .bool due, hv, uv, .slice none 0 0, .bool false, .nilFunc, .int .i64 0, bv, .int .u64 0,
    .int .u64 num, .int .u16 0, .int .u16 0, .int .u16 0, .int .u16 0, .int .u64 0, .int .u64 0, .int .u64 0,
    .int .u64 0, .int .u64 0, .int .u64 0, .int .u64 0, .int .u64 0, .int .u64 0, .int .u64 0, .int .u64 0,
    .int .u64 0, .int .u64 0, .int .u64 0, .int .u64 0, .int .u64 0, .slice none 0 0, .int .u64 0, .bool false, .slice none 0 0]

/-- Block bo is such an object. -/
def OAt (w : World) (bo : Nat) (m r : Value) (due : Bool) (hv uv bv : Value) (num : Int) : Prop := w.heap[bo]? = some (.cells (ocells m r due hv uv bv num) 103 (0, 0))

section
variable {w : World} {bo : Nat} {m r : Value} {due : Bool} {hv uv bv : Value} {num : Int}
theorem OAt.c0 (h : OAt w bo m r due hv uv bv num) : w.cell? ⟨bo, 0, none⟩ = some m := by simp [World.cell?, show w.heap[bo]? = _ from h, ocells]
theorem OAt.c1 (h : OAt w bo m r due hv uv bv num) : w.cell? ⟨bo, 1, none⟩ = some r := by simp [World.cell?, show w.heap[bo]? = _ from h, ocells]
theorem OAt.c10 (h : OAt w bo m r due hv uv bv num) : w.cell? ⟨bo, 10, none⟩ = some (.bool due) := by simp [World.cell?, show w.heap[bo]? = _ from h, ocells]
theorem OAt.c11 (h : OAt w bo m r due hv uv bv num) : w.cell? ⟨bo, 11, none⟩ = some hv := by simp [World.cell?, show w.heap[bo]? = _ from h, ocells]
theorem OAt.c12 (h : OAt w bo m r due hv uv bv num) : w.cell? ⟨bo, 12, none⟩ = some uv := by simp [World.cell?, show w.heap[bo]? = _ from h, ocells]
theorem OAt.c17 (h : OAt w bo m r due hv uv bv num) : w.cell? ⟨bo, 17, none⟩ = some bv := by simp [World.cell?, show w.heap[bo]? = _ from h, ocells]
theorem OAt.c19 (h : OAt w bo m r due hv uv bv num) : w.cell? ⟨bo, 19, none⟩ = some (.int .u64 num) := by simp [World.cell?, show w.heap[bo]? = _ from h, ocells]
theorem OAt.free (h : OAt w bo m r due hv uv bv num) (j : Nat) : w.frozen? ⟨bo, j, none⟩ = false := by simp [World.frozen?, show w.heap[bo]? = _ from h]
theorem OAt.lt (h : OAt w bo m r due hv uv bv num) : bo < w.heap.size := (Array.getElem?_eq_some_iff.1 h).1
theorem OAt.set11 (h : OAt w bo m r due hv uv bv num) (v : Value) : OAt (w.setCell ⟨bo, 11, none⟩ v) bo m r due v uv bv num := by
  have h' : w.heap[bo]? = _ := h
  simp [OAt, World.setCell, Array.getElem?_modify, h', ocells]
theorem OAt.set12 (h : OAt w bo m r due hv uv bv num) (v : Value) : OAt (w.setCell ⟨bo, 12, none⟩ v) bo m r due hv v bv num := by
  have h' : w.heap[bo]? = _ := h
  simp [OAt, World.setCell, Array.getElem?_modify, h', ocells]
theorem OAt.keep {S : Nat → Prop} {w' : World} (h : OAt w bo m r due hv uv bv num) (hk : Keeps S w w') (hs : ¬ S bo) : OAt w' bo m r due hv uv bv num := (hk.block bo h.lt hs).trans h
end

theorem deliver_none (bo gi c : Nat) (w : World) :
    Calls Yba.prog 5 #[.pointer (some ⟨bo, 0, none⟩), .slice (some ⟨gi, 0, none⟩) 0 c] w fun e w' => e = .returned (.tuple #[]) ∧ w' = w := by
  go_enter Yba.func5, Yba.ntmps5
  go_wp2
  first | go_end0 | refine bodyPost_ret (results_none rfl _ _ _) rfl ?_
  exact ⟨rfl, rfl⟩
end Go.Proofs.Ybulkdouo
