import Derived.Test.YbulkdouoDel2
import Derived.Test.YbulkdouoMsg
import Derived.Test.YbulkdouoEq
import Derived.Laws.CopyOwn
import Derived.Deep.DeepCutAuto
import Derived.Deep.QuietTactic
import Derived.BigQuiet
namespace Go.Proofs.Ybulkdouo
open Go.RowKit

/-- What a call's argument of type []ZzS5786AMsg holds. -/
def ZRow (w : World) (a : Option Addr) (zs : List Msg) : Prop := ∀ i z, zs[i]? = some z → ∃ b off, a = some ⟨b, off, none⟩ ∧
  w.cell? ⟨b, off + i * 6, none⟩ = some (.int .u8 z.s) ∧ w.cell? ⟨b, off + i * 6 + 1, none⟩ = some (.int .u64 z.inc) ∧ w.cell? ⟨b, off + i * 6 + 2, none⟩ = some (.int .u64 z.seq) ∧
  w.cell? ⟨b, off + i * 6 + 3, none⟩ = some (.int .u64 z.arr) ∧ w.cell? ⟨b, off + i * 6 + 4, none⟩ = some (.slice z.pa z.pl z.pc) ∧ w.cell? ⟨b, off + i * 6 + 5, none⟩ = some (.bool z.nb) ∧
  0 ≤ z.s ∧ PayOk w (.slice z.pa z.pl z.pc)

def toMsg (z : Msg) : Msg := { z with s := z.s % 2 }

/-- A Member as new. -/
def memZ : Array Value := #[.int .i64 0, .string { data := #[] }, .string { data := #[] }, .int .u32 0, .int .i64 0, .int .i64 0, .int .u64 0, .nilIface, .slice none 0 0, .pointer none, .int .u64 0, .int .i64 0, .slice none 0 0, .int .i64 0, .int .u64 0, .int .i64 0, .pointer none, .int .u64 0, .int .i64 0, .pointer none, .int .u64 0, .int .i64 0, .pointer none, .slice none 0 0, .pointer none, .slice none 0 0, .int .u64 0, .int .u64 0, .int .u64 0, .slice none 0 0, .int .u64 0, .int .i64 0, .slice none 0 0, .int .u64 0, .slice none 0 0, .int .i64 0, .int .u64 0, .int .u64 0, .int .u64 0, .int .u64 0, .int .i64 0, .int .i64 0, .pointer none, .chan none, .chan none, .chan none, .chan none, .chan none, .int .u32 0, .int .i32 0, .int .u32 0, .nilIface, .chan none, .nilIface, .pointer none, .nilIface, .slice none 0 0, .int .u16 0, .int .u16 0, .int .u16 0, .int .u16 0, .int .u64 0, .int .u64 0, .int .u64 0, .int .u64 0, .int .u64 0, .int .u64 0, .int .u64 0, .int .u64 0, .int .u64 0, .int .u64 0, .int .u64 0, .int .u64 0, .int .u64 0, .int .u64 0, .int .u64 0, .int .u64 0, .bool false, .int .u64 0, .int .i64 0, .pointer none, .int .u64 0, .int .i64 0, .pointer none]
theorem memZ_run (w : World) : Sem.run Yba.prog (zeroValue 90) w = .ok (.agg memZ) w := by kernel_rfl

/-- The blocks that the law makes first: the member, the ordering, its rule; nothing that was there has turned. -/
structure Base (w : World) (due : Bool) (hv uv bv : Value) (num : Int) (wr : World) : Prop where
  o : OAt wr (w.heap.size + 1) (.pointer (some ⟨w.heap.size, 0, none⟩)) (.pointer (some ⟨w.heap.size + 1 + 1, 0, none⟩)) due hv uv bv num
  m0 : wr.cell? ⟨w.heap.size, 0, none⟩ = some (.int .i64 1)
  m23 : wr.cell? ⟨w.heap.size, 23, none⟩ = some (.slice none 0 0)
  s11 : wr.cell? ⟨w.heap.size + 1 + 1, 11, none⟩ = some (.slice none 0 0)
  sf : wr.frozen? ⟨w.heap.size + 1 + 1, 11, none⟩ = false
  bel : Below w.heap.size w wr
  size : w.heap.size + 3 ≤ wr.heap.size

section
variable {w : World} {due : Bool} {hv uv bv : Value} {num : Int} {wr w' : World}
theorem Base.keep (h : Base w due hv uv bv num wr) {S : Nat → Prop} (hk : Keeps S wr w') (hs : ∀ k, S k → w.heap.size + 3 ≤ k) : Base w due hv uv bv num w' := by
  refine ⟨h.o.keep hk (fun e => ?_), hk.cell h.m0 (fun e => ?_), hk.cell h.m23 (fun e => ?_), hk.cell h.s11 (fun e => ?_), ?_, ?_, ?_⟩
  · have := hs _ e; omega
  · have := hs _ e; simp at this; omega
  · have := hs _ e; simp at this; omega
  · have := hs _ e; simp at this; omega
  · rw [hk.frozen (by have := h.size; simp; omega) (fun e => by have := hs _ e; simp at this; omega)]
    exact h.sf
  · exact h.bel.trans (hk.below _ (by have := h.size; omega) (fun k e => by have := hs _ e; omega))
  · have := hk.size; have := h.size; omega
theorem Base.set11 (h : Base w due hv uv bv num wr) (v : Value) : Base w due v uv bv num (wr.setCell ⟨w.heap.size + 1, 11, none⟩ v) := by
  have hs := h.size
  refine ⟨h.o.set11 v, ?_, ?_, ?_, ?_, h.bel.setCell (by simp) v, by simpa [World.setCell] using hs⟩
  · rw [World.cell?_setCell_other _ _ _ _ (by simp)]; exact h.m0
  · rw [World.cell?_setCell_other _ _ _ _ (by simp)]; exact h.m23
  · rw [World.cell?_setCell_other _ _ _ _ (by simp)]; exact h.s11
  · simpa using h.sf
theorem Base.set12 (h : Base w due hv uv bv num wr) (v : Value) : Base w due hv v bv num (wr.setCell ⟨w.heap.size + 1, 12, none⟩ v) := by
  have hs := h.size
  refine ⟨h.o.set12 v, ?_, ?_, ?_, ?_, h.bel.setCell (by simp) v, by simpa [World.setCell] using hs⟩
  · rw [World.cell?_setCell_other _ _ _ _ (by simp)]; exact h.m0
  · rw [World.cell?_setCell_other _ _ _ _ (by simp)]; exact h.m23
  · rw [World.cell?_setCell_other _ _ _ _ (by simp)]; exact h.s11
  · simpa using h.sf
end

def seqZ : Array Value := #[.int .i64 0, .int .u64 0, .int .u64 0, .bool false, .map none, .map none, .map none, .map none, .slice none 0 0, .slice none 0 0, .slice none 0 0, .slice none 0 0]

theorem base_start (w : World) (due : Bool) (num : Int) (bv : Value) :
    Base w due (.slice none 0 0) (.slice none 0 0) bv num (((w.alloc (.cells (memZ.setIfInBounds 0 (.int .i64 1)) 90)).alloc (.cells (ocells (.pointer (some ⟨w.heap.size, 0, none⟩)) (.pointer (some ⟨w.heap.size + 1 + 1, 0, none⟩)) due (.slice none 0 0) (.slice none 0 0) bv num) 103)).alloc (.cells seqZ 112)) := by
  have h0 : (((w.alloc (.cells (memZ.setIfInBounds 0 (.int .i64 1)) 90)).alloc (.cells (ocells (.pointer (some ⟨w.heap.size, 0, none⟩)) (.pointer (some ⟨w.heap.size + 1 + 1, 0, none⟩)) due (.slice none 0 0) (.slice none 0 0) bv num) 103)).alloc (.cells seqZ 112)).heap[w.heap.size]? = some (.cells (memZ.setIfInBounds 0 (.int .i64 1)) 90 (0, 0)) := by
    rw [Below.heap_alloc _ _ _ (by simp; omega), Below.heap_alloc _ _ _ (by simp)]
    exact heap_alloc_new w _
  have h1 : (((w.alloc (.cells (memZ.setIfInBounds 0 (.int .i64 1)) 90)).alloc (.cells (ocells (.pointer (some ⟨w.heap.size, 0, none⟩)) (.pointer (some ⟨w.heap.size + 1 + 1, 0, none⟩)) due (.slice none 0 0) (.slice none 0 0) bv num) 103)).alloc (.cells seqZ 112)).heap[w.heap.size + 1]? = some (.cells (ocells (.pointer (some ⟨w.heap.size, 0, none⟩)) (.pointer (some ⟨w.heap.size + 1 + 1, 0, none⟩)) due (.slice none 0 0) (.slice none 0 0) bv num) 103 (0, 0)) := by
    rw [Below.heap_alloc _ _ _ (by simp)]
    simpa using heap_alloc_new (w.alloc (.cells (memZ.setIfInBounds 0 (.int .i64 1)) 90)) _
  have h2 : (((w.alloc (.cells (memZ.setIfInBounds 0 (.int .i64 1)) 90)).alloc (.cells (ocells (.pointer (some ⟨w.heap.size, 0, none⟩)) (.pointer (some ⟨w.heap.size + 1 + 1, 0, none⟩)) due (.slice none 0 0) (.slice none 0 0) bv num) 103)).alloc (.cells seqZ 112)).heap[w.heap.size + 1 + 1]? = some (.cells seqZ 112 (0, 0)) := by
    simpa using heap_alloc_new ((w.alloc (.cells (memZ.setIfInBounds 0 (.int .i64 1)) 90)).alloc (.cells (ocells (.pointer (some ⟨w.heap.size, 0, none⟩)) (.pointer (some ⟨w.heap.size + 1 + 1, 0, none⟩)) due (.slice none 0 0) (.slice none 0 0) bv num) 103)) (.cells seqZ 112)
  refine ⟨h1, ?_, ?_, ?_, ?_, ((((Below.refl _ w).alloc (Nat.le_refl _) _).alloc (by simp) _).alloc (by simp; omega) _), by simp⟩
  · simp only [World.cell?, h0]; rfl
  · simp only [World.cell?, h0]; rfl
  · simp only [World.cell?, h2]; rfl
  · simp only [World.frozen?, h2]; rfl

theorem take_msgs (zs : List Msg) (k : Nat) (z : Msg) (h : zs[k]? = some z) : ((zs.take (k + 1)).map toMsg).flatMap mcells = ((zs.take k).map toMsg).flatMap mcells ++ mcells (toMsg z) := by
  obtain ⟨hlt, rfl⟩ := List.getElem?_eq_some_iff.1 h
  rw [List.take_succ_eq_append_getElem hlt, List.map_append, List.flatMap_append]
  simp

theorem Keeps.of_none {w w' : World} (h : w.grownBy w' none) : Keeps (fun _ => False) w w' := (Keeps.refl (fun _ => False) w).grown h (fun k _ e => by cases e)

theorem Base.grown {w : World} {due : Bool} {hv uv bv : Value} {num : Int} {wr w1 w2 : World} {o : Obj} {gh : Nat} (h : Base w due hv uv bv num wr) (hb : Below wr.heap.size wr w1) (hg : (w1.alloc o).grownBy w2 (some gh)) (hgh : w.heap.size + 3 ≤ gh) : Base w due hv uv bv num w2 :=
  h.keep (S := fun k => k = gh) (((Keeps.of_below hb).alloc o).grown hg (fun k _ e => by simpa using e.symm)) (fun k e => by omega)

/-- A row whose capacity is its length, whole. -/
theorem row_whole {w : World} {base : Nat} {e : TypeId} {size g n : Nat} {xs : List Value} (h : w.ownsRow base e size (.slice (some ⟨g, 0, none⟩) n n) n xs) : w.heap[g]? = some (.cells xs.toArray e (0, 0)) ∧ xs.length = n * size := by
  refine ⟨?_, h.1⟩
  rcases h.2 with ⟨h0, _⟩ | ⟨g', cap, cur, hv, _, hg, _, _, hs, ht⟩
  · cases h0
  · simp only [Value.slice.injEq, Option.some.injEq, Addr.mk.injEq, true_and, and_true] at hv
    obtain ⟨rfl, rfl⟩ := hv
    rw [hg]
    have : cur.toList = xs := by rw [← ht, List.take_of_length_le (by simp [hs])]
    rw [← this]
theorem whole_row {w : World} {base : Nat} {e : TypeId} {size g n : Nat} {xs : List Value} (hb : base ≤ g) (hm : n ≤ maxLen) (hl : xs.length = n * size) (h : w.heap[g]? = some (.cells xs.toArray e (0, 0))) : w.ownsRow base e size (.slice (some ⟨g, 0, none⟩) n n) n xs :=
  ⟨hl, .inr ⟨g, n, xs.toArray, rfl, hb, h, Nat.le_refl _, hm, by simpa using hl, by simp [← hl]⟩⟩

theorem splice_all (cur cs : List Value) (h : cs.length = cur.length) : splice cur 0 cs = cs := by
  simp [splice, h]

theorem Keeps.of_below' {B : Nat} {w w' : World} (h : Below B w w') : Keeps (fun k => B ≤ k) w w' := ⟨h.os, h.tape, h.output, h.size, fun k _ hs => h.block k (by omega)⟩

def msgZ : Msg := { s := 0, inc := 0, seq := 0, arr := 0, pa := none, pl := 0, pc := 0, nb := false }

theorem made_msgs (n : Nat) : (madeCells (Value.agg #[.int .i64 0, .int .u64 0, .int .u64 0, .slice none 0 0, .slice none 0 0, .int .u64 0, .bool false]).cells (n * 7)).toList = (List.replicate n msgZ).flatMap mcells := by
  apply List.ext_getElem
  · rw [length_flat]; simp [madeCells]
  · intro i h1 h2
    rw [length_flat, List.length_replicate] at h2
    have hm : (List.replicate n msgZ)[i / 7]? = some msgZ := by rw [List.getElem?_replicate, if_pos (by omega)]
    have hf := flat_get (List.replicate n msgZ) (i / 7) (i % 7) msgZ hm (by omega)
    rw [show i / 7 * 7 + i % 7 = i from by omega] at hf
    rw [List.getElem?_eq_getElem (by rw [length_flat]; simpa using h2)] at hf
    have hlt : i % 7 < 7 := by omega
    have e1 : (mcells msgZ)[i % 7]? = some ((#[Value.int .i64 0, .int .u64 0, .int .u64 0, .slice none 0 0, .slice none 0 0, .int .u64 0, .bool false] : Array Value)[i % 7]!) := by
      generalize i % 7 = t at hlt
      match t, hlt with
      | 0, _ => rfl
      | 1, _ => rfl
      | 2, _ => rfl
      | 3, _ => rfl
      | 4, _ => rfl
      | 5, _ => rfl
      | 6, _ => rfl
    rw [e1] at hf
    rw [Option.some.inj hf]
    simp [madeCells, Value.cells]

theorem until_src {w w3 : World} {a1 : Option Addr} {us : List Int} {g : Nat} (hU : ∀ i x, us[i]? = some x → ∃ b off, a1 = some ⟨b, off, none⟩ ∧ w.cell? ⟨b, off + i, none⟩ = some (.int .u64 x)) (hb : Below w.heap.size w w3) :
    0 < (us.map (Value.int .u64)).length → (some ⟨g, 0, none⟩ : Option Addr) = some ⟨g, 0, none⟩ ∧ ∃ ad, a1 = some ad ∧ ∀ j v, (us.map (Value.int .u64))[j]? = some v → w3.cell? (ad.add j) = some v := by
  intro h
  refine ⟨rfl, ?_⟩
  simp only [List.length_map] at h
  obtain ⟨b, off, rfl, _⟩ := hU 0 us[0] (by simp)
  refine ⟨_, rfl, fun j v hj => ?_⟩
  simp only [List.getElem?_map, Option.map_eq_some_iff] at hj
  obtain ⟨x, hx, rfl⟩ := hj
  obtain ⟨b', off', e, hc⟩ := hU j x hx
  simp only [Option.some.injEq, Addr.mk.injEq, and_true] at e
  obtain ⟨rfl, rfl⟩ := e
  have hadd : (⟨b, off, none⟩ : Addr).add j = ⟨b, off + j, none⟩ := by unfold Addr.add; split <;> simp_all
  rw [hadd]
  exact cell_later hb hc

theorem until_row {w3 w4 : World} {N g : Nat} {zs : List Value} {us : List Int} (h3 : w3.ownsRow (N + 3) 24 1 (.slice (some ⟨g, 0, none⟩) us.length us.length) us.length zs)
    (h4 : w4.heap[g]? = some (.cells (splice zs 0 (us.map (Value.int .u64))).toArray 24 (0, 0))) (hg : N + 3 ≤ g) (hm : us.length ≤ maxLen) :
    w4.ownsRow (N + 3) 24 1 (.slice (some ⟨g, 0, none⟩) us.length us.length) us.length (us.map (Value.int .u64)) := by
  rw [splice_all _ _ (by have := (row_whole h3).2; simp; omega)] at h4
  exact whole_row hg hm (by simp) h4

/-- The first k messages; the rest as made. -/
def mixed (zs : List Msg) (k : Nat) : List Msg := (zs.take k).map toMsg ++ List.replicate (zs.length - k) msgZ
theorem mixed_zero (zs : List Msg) : mixed zs 0 = List.replicate zs.length msgZ := by simp [mixed]
theorem mixed_all (zs : List Msg) : mixed zs zs.length = zs.map toMsg := by simp [mixed]
theorem length_mixed (zs : List Msg) (k : Nat) (h : k ≤ zs.length) : (mixed zs k).length = zs.length := by simp [mixed]; omega
theorem mixed_get (zs : List Msg) (k : Nat) (h : k < zs.length) : (mixed zs k)[k]? = some msgZ := by
  unfold mixed
  rw [List.getElem?_append_right (by simp; omega), List.getElem?_replicate]
  simp
  omega
theorem mixed_set (zs : List Msg) (k : Nat) (z : Msg) (h : zs[k]? = some z) : (mixed zs k).set k (toMsg z) = mixed zs (k + 1) := by
  obtain ⟨hlt, rfl⟩ := List.getElem?_eq_some_iff.1 h
  unfold mixed
  rw [List.take_succ_eq_append_getElem hlt, List.set_append_right _ _ (by simp; omega)]
  have e : zs.length - k = (zs.length - (k + 1)) + 1 := by omega
  rw [e, List.replicate_succ]
  have e2 : k - ((zs.take k).map toMsg).length = 0 := by simp; omega
  rw [e2]
  simp only [List.map_append, List.map_cons, List.map_nil, List.set_cons_zero, List.append_assoc, List.singleton_append]

theorem set7_flat (ms : List Msg) (k : Nat) (m : Msg) (h : k < ms.length) :
    (((((((ms.flatMap mcells).set (k * 7) (.int .i64 m.s)).set (k * 7 + 1) (.int .u64 m.inc)).set (k * 7 + 2) (.int .u64 m.seq)).set (k * 7 + 3) (.slice m.pa m.pl m.pc)).set (k * 7 + 4) (.slice none 0 0)).set (k * 7 + 5) (.int .u64 m.arr)).set (k * 7 + 6) (.bool m.nb) = (ms.set k m).flatMap mcells := by
  apply List.ext_getElem?
  intro i
  by_cases hi : i < ms.length * 7
  · have hd : i / 7 < ms.length := by omega
    have e : i = i / 7 * 7 + i % 7 := by omega
    have hr : i % 7 < 7 := by omega
    by_cases hk : i / 7 = k
    · rw [e, flat_get (ms.set k m) (i / 7) (i % 7) m (by rw [hk]; simp [h]) hr, hk]
      have hl : k * 7 + 6 < (ms.flatMap mcells).length := by rw [length_flat]; omega
      clear e
      generalize ms.flatMap mcells = xs at hl ⊢
      generalize i % 7 = t at hr ⊢
      match t, hr with
      | 0, _ => simp [List.getElem?_set, mcells]; omega
      | 1, _ => simp [List.getElem?_set, mcells]; omega
      | 2, _ => simp [List.getElem?_set, mcells]; omega
      | 3, _ => simp [List.getElem?_set, mcells]; omega
      | 4, _ => simp [List.getElem?_set, mcells]; omega
      | 5, _ => simp [List.getElem?_set, mcells]; omega
      | 6, _ => simp [mcells, hl]
    · have e1 : (ms.set k m)[i / 7]? = some ms[i / 7] := by rw [List.getElem?_set_ne (by omega)]; simp [hd]
      have e2 : ms[i / 7]? = some ms[i / 7] := by simp [hd]
      rw [List.getElem?_set_ne (by omega), List.getElem?_set_ne (by omega), List.getElem?_set_ne (by omega), List.getElem?_set_ne (by omega), List.getElem?_set_ne (by omega), List.getElem?_set_ne (by omega), List.getElem?_set_ne (by omega)]
      have f1 := flat_get (ms.set k m) (i / 7) (i % 7) _ e1 hr
      have f2 := flat_get ms (i / 7) (i % 7) _ e2 hr
      rw [← e] at f1 f2
      rw [f1, f2]
  · rw [List.getElem?_eq_none (by simp only [List.length_set, length_flat]; omega), List.getElem?_eq_none (by rw [length_flat, List.length_set]; omega)]

theorem keeps_set {g : Nat} {w wx : World} (h : Keeps (fun b => b = g) w wx) (j : Nat) (u : Value) : Keeps (fun b => b = g) w (wx.setCell ⟨g, j, none⟩ u) := h.setCell ⟨g, j, none⟩ (fun _ => rfl) u

/-- A message stored over an element of a row that the call owns. -/
theorem stored7 {w : World} {base g n cap : Nat} {ms : List Msg} (k : Nat) (m : Msg) (h : w.ownsRow base 114 7 (.slice (some ⟨g, 0, none⟩) n cap) n (ms.flatMap mcells)) (hk : k < ms.length) :
    (((((((w.setCell ⟨g, k * 7, none⟩ (.int .i64 m.s)).setCell ⟨g, k * 7 + 1, none⟩ (.int .u64 m.inc)).setCell ⟨g, k * 7 + 2, none⟩ (.int .u64 m.seq)).setCell ⟨g, k * 7 + 3, none⟩ (.slice m.pa m.pl m.pc)).setCell ⟨g, k * 7 + 4, none⟩ (.slice none 0 0)).setCell ⟨g, k * 7 + 5, none⟩ (.int .u64 m.arr)).setCell ⟨g, k * 7 + 6, none⟩ (.bool m.nb)).ownsRow base 114 7 (.slice (some ⟨g, 0, none⟩) n cap) n ((ms.set k m).flatMap mcells) ∧
    Keeps (fun b => b = g) w (((((((w.setCell ⟨g, k * 7, none⟩ (.int .i64 m.s)).setCell ⟨g, k * 7 + 1, none⟩ (.int .u64 m.inc)).setCell ⟨g, k * 7 + 2, none⟩ (.int .u64 m.seq)).setCell ⟨g, k * 7 + 3, none⟩ (.slice m.pa m.pl m.pc)).setCell ⟨g, k * 7 + 4, none⟩ (.slice none 0 0)).setCell ⟨g, k * 7 + 5, none⟩ (.int .u64 m.arr)).setCell ⟨g, k * 7 + 6, none⟩ (.bool m.nb)) := by
  constructor
  · rw [← set7_flat ms k m hk]
    exact (((((((h.stored _ _).1.stored _ _).1.stored _ _).1.stored _ _).1.stored _ _).1.stored _ _).1.stored _ _).1
  · exact keeps_set (keeps_set (keeps_set (keeps_set (keeps_set (keeps_set (keeps_set (Keeps.refl _ w) _ _) _ _) _ _) _ _) _ _) _ _) _ _

/-- deliver, whatever it is handed. -/
theorem deliver_any (bo bm bs gh ch gu cu gi ci n nu base : Nat) (due : Bool) (ba : Option Addr) (bl bc : Nat) (num u : Int) (hs us : List Value) (ms : List Msg) (w : World)
    (hO : OAt w bo (.pointer (some ⟨bm, 0, none⟩)) (.pointer (some ⟨bs, 0, none⟩)) due (.slice (some ⟨gh, 0, none⟩) n ch) (.slice (some ⟨gu, 0, none⟩) nu cu) (.slice ba bl bc) num)
    (hM0 : w.cell? ⟨bm, 0, none⟩ = some (.int .i64 1)) (hM23 : w.cell? ⟨bm, 23, none⟩ = some (.slice none 0 0))
    (hS : w.cell? ⟨bs, 11, none⟩ = some (.slice none 0 0)) (hSf : w.frozen? ⟨bs, 11, none⟩ = false)
    (hH : w.ownsRow base 114 7 (.slice (some ⟨gh, 0, none⟩) n ch) n hs) (hU : w.ownsRow base 24 1 (.slice (some ⟨gu, 0, none⟩) nu cu) nu us)
    (hI : w.ownsRow base 114 7 (.slice (some ⟨gi, 0, none⟩) ms.length ci) ms.length (ms.flatMap mcells))
    (hsend : ∀ m ∈ ms, m.s = 0 ∨ m.s = 1) (hn : n + nu + ms.length ≤ 1048576) (hbo : bo < base) (hgu : gh ≠ gu) (hgi : gi ≠ gh ∧ gi ≠ gu)
    (hu : (ba.isSome = false ∧ u = num) ∨ (ba.isSome = true ∧ u = 18446744073709551615)) :
    Calls Yba.prog 5 #[.pointer (some ⟨bo, 0, none⟩), .slice (some ⟨gi, 0, none⟩) ms.length ci] w fun e w' => e = .returned (.tuple #[]) ∧
      ∃ gH cH gu' cu', DRel w bo gh gu nu (n + ms.length) base gH cH (.pointer (some ⟨bm, 0, none⟩)) (.pointer (some ⟨bs, 0, none⟩)) (.slice ba bl bc) due num u (hs ++ ms.flatMap mcells) us ms.length gu' cu' w' := by
  by_cases hk : 0 < ms.length
  · exact deliver_some bo bm bs gh ch gu cu gi ci n nu base due ba bl bc num u hs us ms w hO hM0 hM23 hS hSf hH hU hI hk hsend hn hbo hgu hgi hu
  · obtain rfl : ms = [] := List.eq_nil_of_length_eq_zero (by omega)
    refine (deliver_none bo gi ci w).mono ?_
    rintro e w' ⟨rfl, rfl⟩
    exact ⟨rfl, gh, ch, gu, cu, ⟨hO, by simpa using hH, by simpa using hU, hgu, .inl rfl, Keeps.refl _ _⟩⟩

/-- What the law looks at behind deliver. -/
structure Final (w : World) (zp zm : List Msg) (us : List Int) (due : Bool) (ba : Option Addr) (num u : Int) (gi gH cH gU cU : Nat) (w7 : World) : Prop where
  o : OAt w7 (w.heap.size + 1) (.pointer (some ⟨w.heap.size, 0, none⟩)) (.pointer (some ⟨w.heap.size + 1 + 1, 0, none⟩)) due (.slice (some ⟨gH, 0, none⟩) (zp.length + zm.length) cH) (.slice (some ⟨gU, 0, none⟩) (us.length + zm.length) cU) (.slice ba 0 0) num
  held : w7.ownsRow (w.heap.size + 3) 114 7 (.slice (some ⟨gH, 0, none⟩) (zp.length + zm.length) cH) (zp.length + zm.length) ((zp.map toMsg ++ zm.map toMsg).flatMap mcells)
  til : w7.ownsRow (w.heap.size + 3) 24 1 (.slice (some ⟨gU, 0, none⟩) (us.length + zm.length) cU) (us.length + zm.length) (us.map (Value.int .u64) ++ List.replicate zm.length (.int .u64 u))
  ins : w7.ownsRow (w.heap.size + 3) 114 7 (.slice (some ⟨gi, 0, none⟩) zm.length zm.length) zm.length ((zm.map toMsg).flatMap mcells)
  bel : Below w.heap.size w w7

theorem Final.of {w wr w7 : World} {zp zm : List Msg} {us : List Int} {due : Bool} {ba : Option Addr} {num u : Int} {gi gh ch gu gH cH gU cU : Nat}
    (B : Base w due (.slice (some ⟨gh, 0, none⟩) zp.length ch) (.slice (some ⟨gu, 0, none⟩) us.length us.length) (.slice ba 0 0) num wr)
    (hI : wr.ownsRow (w.heap.size + 3) 114 7 (.slice (some ⟨gi, 0, none⟩) zm.length zm.length) zm.length ((zm.map toMsg).flatMap mcells))
    (hgh : w.heap.size + 3 ≤ gh ∧ gh < gu) (hgi : gu < gi)
    (D : DRel wr (w.heap.size + 1) gh gu us.length (zp.length + (zm.map toMsg).length) (w.heap.size + 3) gH cH (.pointer (some ⟨w.heap.size, 0, none⟩)) (.pointer (some ⟨w.heap.size + 1 + 1, 0, none⟩)) (.slice ba 0 0) due num u ((zp.map toMsg).flatMap mcells ++ (zm.map toMsg).flatMap mcells) (us.map (Value.int .u64)) (zm.map toMsg).length gU cU w7) :
    Final w zp zm us due ba num u gi gH cH gU cU w7 := by
  obtain ⟨h1, h2, h3, _, _, h6⟩ := D
  simp only [List.length_map] at h1 h2 h3
  refine ⟨h1, by rw [List.flatMap_append]; exact h2, h3, h6.owns hI (fun k e => ?_), B.bel.trans (h6.below _ (by have := B.size; omega) (fun k e => by rcases e with e | e | e <;> omega))⟩
  simp [Value.ownBlock] at e
  omega

theorem toMsg_send (zs : List Msg) (h : ∀ (i : Nat) (z : Msg), zs[i]? = some z → 0 ≤ z.s) : ∀ m ∈ zs.map toMsg, m.s = 0 ∨ m.s = 1 := by
  intro m hm
  obtain ⟨z, hz, rfl⟩ := List.mem_map.1 hm
  obtain ⟨i, hi, rfl⟩ := List.getElem_of_mem hz
  have := h i zs[i] (by simp [hi])
  show zs[i].s % 2 = 0 ∨ zs[i].s % 2 = 1
  omega

theorem hideIt {p : Prop} (h : p) : Hid p := h
theorem pay_later {w w1 : World} {v : Value} (hb : Below w.heap.size w w1) (h : PayOk w v) : PayOk w1 v := h.later hb
theorem below_step {w7 w w1 : World} (hb : Below w.heap.size w w1) (h : Below w7.heap.size w7 w) : Below w7.heap.size w7 w1 := h.trans (hb.mono h.size)

theorem row_u64 {w : World} {base g n cap : Nat} {xs : List Value} (h : w.ownsRow base 24 1 (.slice (some ⟨g, 0, none⟩) n cap) n xs) (j : Nat) (x : Int) (hj : xs[j]? = some (.int .u64 x)) (hn : j < n) : w.cell? ⟨g, j, none⟩ = some (.int .u64 x) := by
  rw [h.cellAt j (by omega)]
  exact hj
theorem until_get1 (us : List Int) (ys : List Value) (k : Nat) (x : Int) (h : us[k]? = some x) : (us.map (Value.int .u64) ++ ys)[k]? = some (.int .u64 x) := by
  have hlt : k < us.length := (List.getElem?_eq_some_iff.1 h).1
  rw [List.getElem?_append_left (by simpa using hlt)]
  simp [h]
theorem until_get2 (us : List Int) (n k : Nat) (u : Int) (h : k < n) : (us.map (Value.int .u64) ++ List.replicate n (Value.int .u64 u))[us.length + k]? = some (.int .u64 u) := by
  rw [List.getElem?_append_right (by simp), List.getElem?_replicate]
  simp [h]

end Go.Proofs.Ybulkdouo
