import Derived.Test.YbulkdouoProg
import Derived.WalkKit
import Derived.WalkSpells
import Derived.WalkLawsBesides
import Derived.Deep.AppendLies
namespace Go.Proofs.Ybulkdouo
open Go.RowKit

/-- A store of what the cell holds already turns nothing. -/
theorem heap_setCell_self {w : World} {a : Addr} {v : Value} (h : w.cell? a = some v) : (w.setCell a v).heap = w.heap := by
  have hb : a.block < w.heap.size := World.block_lt_of_cell? w a h
  unfold World.cell? at h
  unfold World.setCell
  simp only
  apply Array.ext
  · simp
  · intro i h1 h2
    rw [Array.getElem_modify]
    split
    · rename_i e
      subst e
      rw [Array.getElem?_eq_getElem hb] at h
      cases hc : w.heap[a.block] with
      | cells c t f =>
        rw [hc] at h
        simp only at h
        split at h
        · cases h
        · rename_i hs
          simp only [hs]
          congr 1
          simp only [Bool.false_eq_true, if_false]
          apply Array.ext
          · simp
          · intro j hj1 hj2
            rw [Array.getElem_setIfInBounds]
            split
            · rename_i e2
              subst e2
              rw [Array.getElem?_eq_getElem hj2] at h
              exact (Option.some.inj h).symm
            · rfl
      | _ => rfl
    · rfl

theorem setCell_self {w : World} {a : Addr} {v : Value} (h : w.cell? a = some v) : w.setCell a v = w := by
  have e := heap_setCell_self h
  unfold World.setCell at e ⊢
  simp only at e
  rw [e]

/-- All blocks that were there, but for those in S, are as they were. -/
structure Keeps (S : Nat → Prop) (w w' : World) : Prop where
  os : w'.os = w.os
  tape : w'.tape = w.tape
  output : w'.output = w.output
  size : w.heap.size ≤ w'.heap.size
  block : ∀ k, k < w.heap.size → ¬ S k → w'.heap[k]? = w.heap[k]?

section
variable {S T : Nat → Prop} {a b c w w' : World}
theorem Keeps.refl (S : Nat → Prop) (w : World) : Keeps S w w := ⟨rfl, rfl, rfl, Nat.le_refl _, fun _ _ _ => rfl⟩
theorem Keeps.trans (h : Keeps S a b) (k : Keeps S b c) : Keeps S a c :=
  ⟨k.os.trans h.os, k.tape.trans h.tape, k.output.trans h.output, Nat.le_trans h.size k.size, fun i hi hs => (k.block i (Nat.lt_of_lt_of_le hi h.size) hs).trans (h.block i hi hs)⟩
/-- A second step may write what the first made. -/
theorem Keeps.step (h : Keeps S a b) (k : Keeps T b c) (hst : ∀ i, i < a.heap.size → T i → S i) : Keeps S a c :=
  ⟨k.os.trans h.os, k.tape.trans h.tape, k.output.trans h.output, Nat.le_trans h.size k.size, fun i hi hs => (k.block i (Nat.lt_of_lt_of_le hi h.size) (fun t => hs (hst i hi t))).trans (h.block i hi hs)⟩
theorem Keeps.mono (h : Keeps S a b) (hst : ∀ i, i < a.heap.size → S i → T i) : Keeps T a b :=
  ⟨h.os, h.tape, h.output, h.size, fun i hi hs => h.block i hi (fun t => hs (hst i hi t))⟩
theorem Keeps.of_below (h : Below a.heap.size a b) : Keeps S a b := ⟨h.os, h.tape, h.output, h.size, fun i hi _ => h.block i hi⟩
theorem Keeps.alloc (h : Keeps S a b) (o : Obj) : Keeps S a (b.alloc o) :=
  h.trans ⟨rfl, rfl, rfl, by simp, fun k hk _ => Below.heap_alloc _ _ _ (by omega)⟩
theorem Keeps.drew (h : Keeps S a b) : Keeps S a b.drew := ⟨h.os, h.tape, h.output, h.size, h.block⟩
theorem Keeps.drewN (h : Keeps S a b) (n : Nat) : Keeps S a (b.drewN n) := ⟨h.os, h.tape, h.output, h.size, h.block⟩
theorem Keeps.setCell (h : Keeps S a b) (p : Addr) (hp : p.block < a.heap.size → S p.block) (u : Value) : Keeps S a (b.setCell p u) :=
  ⟨h.os, h.tape, h.output, by simpa [World.setCell] using h.size, fun k hk hs => (Below.heap_setCell _ _ _ _ (fun e => hs (by subst e; exact hp hk))).trans (h.block k hk hs)⟩
theorem Keeps.grown {row : Option Nat} (h : Keeps S a b) (hg : b.grownBy c row) (hr : ∀ k, k < a.heap.size → row = some k → S k) : Keeps S a c :=
  ⟨hg.os.trans h.os, hg.tape.trans h.tape, hg.output.trans h.output, Nat.le_trans h.size hg.size,
    fun k hk hs => (hg.block k (Nat.lt_of_lt_of_le hk h.size) (fun e => hs (hr k hk e.symm))).trans (h.block k hk hs)⟩
theorem Keeps.cell (h : Keeps S a b) {p : Addr} {v : Value} (hc : a.cell? p = some v) (hs : ¬ S p.block) : b.cell? p = some v :=
  (World.cell?_of_block (h.block p.block (World.block_lt_of_cell? a p hc) hs)).trans hc
theorem Keeps.frozen (h : Keeps S a b) {p : Addr} (hp : p.block < a.heap.size) (hs : ¬ S p.block) : b.frozen? p = a.frozen? p :=
  World.frozen?_of_block (h.block p.block hp hs)
theorem Keeps.grownBy {row : Option Nat} (h : Keeps (fun k => some k = row) a b) : a.grownBy b row := ⟨h.os, h.tape, h.output, h.size, fun k hk hs => h.block k hk hs⟩
theorem Keeps.below (h : Keeps S a b) (B : Nat) (hB : B ≤ a.heap.size) (hs : ∀ k, S k → B ≤ k) : Below B a b :=
  ⟨h.os, h.tape, h.output, h.size, fun k hk => h.block k (by omega) (fun s => by have := hs k s; omega)⟩
/-- A row that the call owns, in no block of S, stays. -/
theorem Keeps.owns {base : Nat} {e : TypeId} {size : Nat} {v : Value} {n : Nat} {xs : List Value} (h : Keeps S a b) (ho : a.ownsRow base e size v n xs) (hs : ∀ k, v.ownBlock = some k → ¬ S k) : b.ownsRow base e size v n xs := by
  refine ⟨ho.1, ?_⟩
  rcases ho.2 with hn | ⟨g, cap, cur, rfl, hb, hgg, rest⟩
  · exact .inl hn
  · refine .inr ⟨g, cap, cur, rfl, hb, ?_, rest⟩
    rw [h.block g (Array.getElem?_eq_some_iff.1 hgg).1 (hs g rfl)]
    exact hgg
end
end Go.Proofs.Ybulkdouo
