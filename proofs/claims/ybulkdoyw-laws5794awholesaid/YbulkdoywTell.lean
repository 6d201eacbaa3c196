import Derived.Test.YbulkdoywProg
import Derived.WalkKit
import Derived.WalkSpells
import Derived.WalkLawsBesides
import Derived.Deep.QuietTactic
import Derived.BigQuiet
import Derived.Laws.EntriesVeiled
import Derived.Deep.AppendLies
namespace Go.Proofs.Ybulkdoyw
open Go.RowKit

theorem Yba.info4 : (Yba.prog.info? 4).map (fun i => (i.zero, i.size, i.bytes)) = some (some (.bool false), 1, 1) := by kernel_rfl

/-- The bools that a []bool leads to. -/
def BoolRow (w : World) (a : Option Addr) (xs : List Bool) : Prop := ∀ i x, xs[i]? = some x → ∃ b off, a = some ⟨b, off, none⟩ ∧ w.cell? ⟨b, off + i, none⟩ = some (.bool x)
theorem BoolRow.later {w w' : World} {a : Option Addr} {xs : List Bool} (h : BoolRow w a xs) (hb : Below w.heap.size w w') : BoolRow w' a xs := fun i x hx => by
  obtain ⟨b, off, e, hc⟩ := h i x hx
  exact ⟨b, off, e, cell_later hb hc⟩

/-- A row that the call owns, as a slice of bools. -/
theorem boolRow_of_owns {w : World} {base : Nat} {v : Value} {xs : List Bool} (h : w.ownsRow base 4 1 v xs.length (xs.map Value.bool)) : ∃ ca cc, v = .slice ca xs.length cc ∧ BoolRow w ca xs := by
  rcases h.2 with ⟨rfl, h0⟩ | ⟨g, cap, cur, rfl, _⟩
  · exact ⟨none, 0, by rw [h0], fun i x hx => by
      have := (List.getElem?_eq_some_iff.1 hx).1
      omega⟩
  · refine ⟨_, cap, rfl, fun i x hx => ⟨g, 0, rfl, ?_⟩⟩
    have hlt := (List.getElem?_eq_some_iff.1 hx).1
    rw [Nat.zero_add, h.cellAt i (by omega)]
    simp [hx]

set_option maxHeartbeats 400000 in
/-- zzs5794aeq of two slices that hold the same bools. -/
theorem aeq_same (a1 a2 : Option Addr) (c1 c2 : Nat) (xs : List Bool) (w : World) (h1 : BoolRow w a1 xs) (h2 : BoolRow w a2 xs) (hn : xs.length ≤ 1048576) :
    Calls Yba.prog 9 #[.slice a1 xs.length c1, .slice a2 xs.length c2] w fun e w' => e = .returned (.bool true) ∧ ∃ m, w' = w.drewN m := by
  go_enter Yba.func9, Yba.ntmps9
  go_wp2
  go_loopw [5] (fun i wr => ∃ k : Nat, k ≤ xs.length ∧ i = .int .i64 k ∧ ∃ m, wr = w.drewN m) (fun i _ => xs.length - (intOf i).toNat)
  case atStart => exact ⟨0, Nat.zero_le _, rfl, 0, by simp [World.drewN]⟩
  case round =>
    obtain ⟨k, hk, rfl, m, rfl⟩ := hrel
    by_cases hlt : k < xs.length
    · obtain ⟨x, hx⟩ : ∃ x, xs[k]? = some x := ⟨xs[k], by simp [hlt]⟩
      obtain ⟨b1, o1, rfl, q1⟩ := h1 k x hx
      obtain ⟨b2, o2, rfl, q2⟩ := h2 k x hx
      have b0 : (0 : Int) ≤ (k : Int) := by omega
      have bl : (k : Int) < (xs.length : Int) := by omega
      clear hx
      go_wp2
      go_quiet (fail)
      go_wp2
      go_roundw
      case rel => exact ⟨k + 1, by omega, by go_num, m + nq, rfl⟩
      case measure => simp [intOf]; omega
    · go_wp2
      go_ret
      exact ⟨rfl, m, rfl⟩

/-- A peer's cells. -/
def pcells (id : Int) (addr : ByteArray) (fnd : Value) (grace : Int) (down : Bool) : Array Value :=
  #[.int .i64 0, .slice none 0 0, .slice none 0 0, .int .i64 0, .int .i64 id, .string addr, .chan none, .pointer none, .bool false, .int .u32 0, .int .u32 0, fnd, .int .i64 grace, .bool down]

/-- The log's variable (block N), the peer (block N + 1), what the log holds. -/
structure Told (w : World) (id : Int) (addr : ByteArray) (fnd : Value) (grace : Int) (down : Bool) (v : Value) (xs : List Bool) (wr : World) : Prop where
  log : wr.heap[w.heap.size]? = some (.cells #[v] 22 (0, 0))
  peer : wr.heap[w.heap.size + 1]? = some (.cells (pcells id addr fnd grace down) 39 (0, 0))
  own : wr.ownsRow (w.heap.size + 2) 4 1 v xs.length (xs.map Value.bool)
  bel : Below w.heap.size w wr

section
variable {w wr : World} {id : Int} {addr : ByteArray} {fnd : Value} {grace : Int} {down : Bool} {v : Value} {xs : List Bool}
theorem Told.lt (h : Told w id addr fnd grace down v xs wr) : w.heap.size + 2 ≤ wr.heap.size := by
  have := (Array.getElem?_eq_some_iff.1 h.peer).1
  omega
theorem Told.cl (h : Told w id addr fnd grace down v xs wr) : wr.cell? ⟨w.heap.size, 0, none⟩ = some v := by simp [World.cell?, h.log]
theorem Told.fl (h : Told w id addr fnd grace down v xs wr) : wr.frozen? ⟨w.heap.size, 0, none⟩ = false := by simp [World.frozen?, h.log]
theorem Told.cf (h : Told w id addr fnd grace down v xs wr) : wr.cell? ⟨w.heap.size + 1, 11, none⟩ = some fnd := by simp [World.cell?, h.peer, pcells]
theorem Told.cd (h : Told w id addr fnd grace down v xs wr) : wr.cell? ⟨w.heap.size + 1, 13, none⟩ = some (.bool down) := by simp [World.cell?, h.peer, pcells]
theorem Told.fd (h : Told w id addr fnd grace down v xs wr) : wr.frozen? ⟨w.heap.size + 1, 13, none⟩ = false := by simp [World.frozen?, h.peer]
theorem Told.setDown (h : Told w id addr fnd grace down v xs wr) (d : Bool) : Told w id addr fnd grace d v xs (wr.setCell ⟨w.heap.size + 1, 13, none⟩ (.bool d)) := by
  refine ⟨?_, ?_, ownsRow_setCell_below h.own (by simp) _, h.bel.setCell (by simp) _⟩
  · rw [Below.heap_setCell _ _ _ _ (by simp)]; exact h.log
  · have := heap_setCell_same wr (w.heap.size + 1) 13 _ _ (.bool d) h.peer
    simpa [pcells] using this
theorem Told.mid (h : Told w id addr fnd grace down v xs wr) {o : Obj} {w1 : World} (hg : (wr.alloc o).grownBy w1 v.ownBlock) : w1.heap[w.heap.size]? = some (.cells #[v] 22 (0, 0)) := by
  have hlt := h.lt
  rw [hg.block _ (by simp; omega) (fun e => by have := (h.own.lt _ e.symm).1; omega)]
  exact (Below.heap_alloc _ _ _ (by omega)).trans h.log
/-- Behind the append: the new slice stored into the log. -/
theorem Told.push (h : Told w id addr fnd grace down v xs wr) {d : Bool} {o : Obj} {v' : Value} {w1 : World} (hown : w1.ownsRow (w.heap.size + 2) 4 1 v' (xs.length + 1) (xs.map Value.bool ++ [.bool d])) (hg : (wr.alloc o).grownBy w1 v.ownBlock) :
    Told w id addr fnd grace down v' (xs ++ [d]) (w1.setCell ⟨w.heap.size, 0, none⟩ v') := by
  have hlt := h.lt
  have hrow : ∀ k, v.ownBlock = some k → w.heap.size + 2 ≤ k := fun k e => (h.own.lt k e).1
  have keep : ∀ k, k < w.heap.size + 2 → w1.heap[k]? = wr.heap[k]? := fun k hk => by
    rw [hg.block k (by simp; omega) (fun e => by have := hrow k e.symm; omega)]
    exact Below.heap_alloc _ _ _ (by omega)
  refine ⟨?_, ?_, ?_, ?_⟩
  · have := heap_setCell_same w1 w.heap.size 0 _ _ v' ((keep _ (by omega)).trans h.log)
    simpa using this
  · rw [Below.heap_setCell _ _ _ _ (by simp), keep _ (by omega)]
    exact h.peer
  · have e : (xs ++ [d]).map Value.bool = xs.map Value.bool ++ [.bool d] := by simp
    rw [e, List.length_append]
    exact ownsRow_setCell_below hown (by simp) _
  · exact (((h.bel.alloc (by omega) o).grown hg (by simp; omega) (fun k e => by have := hrow k e; omega))).setCell (Nat.le_refl _) _
end

set_option maxHeartbeats 400000 in
/-- The recording closure. -/
theorem hear11 (w wr : World) (id : Int) (addr : ByteArray) (fnd : Value) (grace : Int) (down : Bool) (v : Value) (xs : List Bool) (d : Bool) (h : Told w id addr fnd grace down v xs wr) (hn : xs.length ≤ 1048576) :
    Calls Yba.prog 11 #[.bool d, .pointer (some ⟨w.heap.size, 0, none⟩)] wr fun e w' => e = .returned (.tuple #[]) ∧ ∃ v', Told w id addr fnd grace down v' (xs ++ [d]) w' := by
  obtain ⟨i0, hi, hz0, hz1, hz2⟩ := info_parts Yba.info4
  have cl := h.cl
  have hlt := h.lt
  obtain ⟨ca, cc, rfl, _⟩ := boolRow_of_owns h.own
  go_enter Yba.func11, Yba.ntmps11
  go_wp2_with (at_builtin; refine wpList_append_lies _ rfl (.tmp 3) (.tmp 5) 22 rfl (w.heap.size + 2) 4 i0 _ 1 1 Yba.underlying22 hi hz0 hz1 hz2 rfl (by decide) (.slice ca xs.length cc) xs.length _ (by rfl) (h.own.alloc _) ⟨wr.heap.size, 0, none⟩ 1 1 [.bool d] (by rfl) (by rfl) (cell_one_new _ _ _) (by simp [Value.oneCell']) (by decide) (by unfold maxLen; omega) (by omega) (by simp; omega) (wr.heap.size + 1) (by simp) ?_; intro g c w1 hown hgrow _ _; have P := h.push hown hgrow; have c1 := cell_of_one (h.mid hgrow); have f1 := free_of_one (h.mid hgrow); clear hown hgrow cl)
  go_end0
  exact ⟨rfl, _, P⟩

set_option maxHeartbeats 400000 in
/-- The recording closure. -/
theorem hear7 (w wr : World) (id : Int) (addr : ByteArray) (fnd : Value) (grace : Int) (down : Bool) (v : Value) (xs : List Bool) (d : Bool) (h : Told w id addr fnd grace down v xs wr) (hn : xs.length ≤ 1048576) :
    Calls Yba.prog 7 #[.bool d, .pointer (some ⟨w.heap.size, 0, none⟩)] wr fun e w' => e = .returned (.tuple #[]) ∧ ∃ v', Told w id addr fnd grace down v' (xs ++ [d]) w' := by
  obtain ⟨i0, hi, hz0, hz1, hz2⟩ := info_parts Yba.info4
  have cl := h.cl
  have hlt := h.lt
  obtain ⟨ca, cc, rfl, _⟩ := boolRow_of_owns h.own
  go_enter Yba.func7, Yba.ntmps7
  go_wp2_with (at_builtin; refine wpList_append_lies _ rfl (.tmp 3) (.tmp 5) 22 rfl (w.heap.size + 2) 4 i0 _ 1 1 Yba.underlying22 hi hz0 hz1 hz2 rfl (by decide) (.slice ca xs.length cc) xs.length _ (by rfl) (h.own.alloc _) ⟨wr.heap.size, 0, none⟩ 1 1 [.bool d] (by rfl) (by rfl) (cell_one_new _ _ _) (by simp [Value.oneCell']) (by decide) (by unfold maxLen; omega) (by omega) (by simp; omega) (wr.heap.size + 1) (by simp) ?_; intro g c w1 hown hgrow _ _; have P := h.push hown hgrow; have c1 := cell_of_one (h.mid hgrow); have f1 := free_of_one (h.mid hgrow); clear hown hgrow cl)
  go_end0
  exact ⟨rfl, _, P⟩

theorem equalIn_func (w : World) (k : Nat) (f : Fn) (a b : Array Value) : (Op.equalIn (k + 1) 37 (.func f a b) .nilFunc).run Yba.prog w = .ok false w := by simp [Op.equalIn, run_underlying Yba.underlying37]
theorem equalIn_nilFunc (w : World) (k : Nat) : (Op.equalIn (k + 1) 37 .nilFunc .nilFunc).run Yba.prog w = .ok true w := by simp [Op.equalIn, run_underlying Yba.underlying37]
theorem neq_func (w : World) (f : Fn) (a b : Array Value) : (binOp .neq 37 (.func f a b) .nilFunc).run Yba.prog w = .ok (.bool true) w := by
  simp only [binOp]
  simp [Op.equal, Op.maxDepth, equalIn_func w 9999 f a b]
theorem neq_nilFunc (w : World) : (binOp .neq 37 .nilFunc .nilFunc).run Yba.prog w = .ok (.bool false) w := by
  simp only [binOp]
  simp [Op.equal, Op.maxDepth, equalIn_nilFunc w 9999]

set_option maxHeartbeats 400000 in
/-- tell, nobody hears: nothing happens. -/
theorem tell_nil (bp : Nat) (d : Bool) (w : World) (hf : w.cell? ⟨bp, 11, none⟩ = some .nilFunc) :
    Calls Yba.prog 8 #[.pointer (some ⟨bp, 0, none⟩), .bool d] w fun e w' => e = .returned (.tuple #[]) ∧ w' = w := by
  have n1 := neq_nilFunc
  go_enter Yba.func8, Yba.ntmps8
  go_wp2
  go_end0
  exact ⟨rfl, rfl⟩
set_option maxHeartbeats 400000 in
/-- tell, where the state is told already: nothing happens. -/
theorem tell_same (bp : Nat) (f : Fn) (a b : Array Value) (d : Bool) (w : World) (hf : w.cell? ⟨bp, 11, none⟩ = some (.func f a b)) (hd : w.cell? ⟨bp, 13, none⟩ = some (.bool d)) :
    Calls Yba.prog 8 #[.pointer (some ⟨bp, 0, none⟩), .bool d] w fun e w' => e = .returned (.tuple #[]) ∧ w' = w := by
  have n1 := neq_func
  go_enter Yba.func8, Yba.ntmps8
  go_wp2
  go_end0
  exact ⟨rfl, rfl⟩

set_option maxHeartbeats 400000 in
/-- tell of a change: it is recorded. -/
theorem tell11 (w wr : World) (id : Int) (addr : ByteArray) (grace : Int) (down d : Bool) (v : Value) (xs : List Bool) (hne : down ≠ d) (h : Told w id addr (.func (.func 11) #[] #[.pointer (some ⟨w.heap.size, 0, none⟩)]) grace down v xs wr) (hn : xs.length ≤ 1048576) :
    Calls Yba.prog 8 #[.pointer (some ⟨w.heap.size + 1, 0, none⟩), .bool d] wr fun e w' => e = .returned (.tuple #[]) ∧ ∃ v', Told w id addr (.func (.func 11) #[] #[.pointer (some ⟨w.heap.size, 0, none⟩)]) grace d v' (xs ++ [d]) w' := by
  have n1 := neq_func
  have cf := h.cf
  have cd := h.cd
  have fd := h.fd
  have h2 := h.setDown d
  cases down
  · cases d
    · exact absurd rfl hne
    · go_enter Yba.func8, Yba.ntmps8
      go_wp2_with (go_at_call 11; refine (hear11 w _ id addr _ grace true v xs true h2 hn).mono ?_; rintro e w1 ⟨rfl, v', P⟩)
      go_end0
      exact ⟨rfl, _, P⟩
  · cases d
    · go_enter Yba.func8, Yba.ntmps8
      go_wp2_with (go_at_call 11; refine (hear11 w _ id addr _ grace false v xs false h2 hn).mono ?_; rintro e w1 ⟨rfl, v', P⟩)
      go_end0
      exact ⟨rfl, _, P⟩
    · exact absurd rfl hne

set_option maxHeartbeats 400000 in
/-- tell of a change: it is recorded. -/
theorem tell7 (w wr : World) (id : Int) (addr : ByteArray) (grace : Int) (down d : Bool) (v : Value) (xs : List Bool) (hne : down ≠ d) (h : Told w id addr (.func (.func 7) #[] #[.pointer (some ⟨w.heap.size, 0, none⟩)]) grace down v xs wr) (hn : xs.length ≤ 1048576) :
    Calls Yba.prog 8 #[.pointer (some ⟨w.heap.size + 1, 0, none⟩), .bool d] wr fun e w' => e = .returned (.tuple #[]) ∧ ∃ v', Told w id addr (.func (.func 7) #[] #[.pointer (some ⟨w.heap.size, 0, none⟩)]) grace d v' (xs ++ [d]) w' := by
  have n1 := neq_func
  have cf := h.cf
  have cd := h.cd
  have fd := h.fd
  have h2 := h.setDown d
  cases down
  · cases d
    · exact absurd rfl hne
    · go_enter Yba.func8, Yba.ntmps8
      go_wp2_with (go_at_call 7; refine (hear7 w _ id addr _ grace true v xs true h2 hn).mono ?_; rintro e w1 ⟨rfl, v', P⟩)
      go_end0
      exact ⟨rfl, _, P⟩
  · cases d
    · go_enter Yba.func8, Yba.ntmps8
      go_wp2_with (go_at_call 7; refine (hear7 w _ id addr _ grace false v xs false h2 hn).mono ?_; rintro e w1 ⟨rfl, v', P⟩)
      go_end0
      exact ⟨rfl, _, P⟩
    · exact absurd rfl hne

end Go.Proofs.Ybulkdoyw
