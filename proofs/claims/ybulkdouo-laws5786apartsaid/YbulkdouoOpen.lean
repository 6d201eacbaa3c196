import Derived.Test.YbulkdouoMain
import Derived.ProofKit
import Derived.OpenShut
import Derived.Deep.Slices
import Derived.Laws.BytesArg
namespace Go.Proofs.Ybulkdouo
open Go.RowKit Go.Deep Go.ChangeShapes Go.WideShapes Go.ChangeAt

theorem Yba.cells117 : Yba.prog.cellsOf 117 = 6 := by kernel_rfl
theorem Yba.cells5 : Yba.prog.cellsOf 5 = 1 := by kernel_rfl
theorem Yba.cells24 : Yba.prog.cellsOf 24 = 1 := by kernel_rfl
theorem Yba.cells98 : Yba.prog.cellsOf 98 = 1 := by kernel_rfl
theorem Yba.cells4 : Yba.prog.cellsOf 4 = 1 := by kernel_rfl

theorem add_plain' (b off j : Nat) : (⟨b, off, none⟩ : Addr).add j = ⟨b, off + j, none⟩ := by unfold Addr.add; split <;> simp_all

/-- A []byte that was read can be made a string, then and later. -/
theorem pay_ok {H : Type} {enc : TypeId × Value → H} {W : World} {fuel : Nat} {v : Value} {y : DataW H × List MemPlace} (h : DataW.trod enc Yba.prog W 0 (fun _ => true) true fuel 98 [v] = some y) :
    ∃ pa pl pc, v = .slice pa pl pc ∧ PayOk W (.slice pa pl pc) := by
  rcases open_ints Yba.underlying98 Yba.underlying5 Yba.cells5 h with ⟨hcs, _⟩ | ⟨a, len, cap, zs, hcs, _, hl, hm, hz, _, hcell, _⟩
  · simp only [List.cons.injEq, and_true] at hcs
    subst hcs
    exact ⟨none, 0, 0, rfl, ByteArray.empty, fun w' _ => run_convert_bytes_nil w' 98 5 Yba.underlying98 Yba.underlying5 0 0 9 Yba.underlying9⟩
  · simp only [List.cons.injEq, and_true] at hcs
    subst hcs
    simp only [if_true] at hz
    refine ⟨some a, len, cap, rfl, ?_⟩
    by_cases h0 : len = 0
    · subst h0
      refine ⟨[].foldl (fun r (n : Int) => r.push (UInt8.ofNat n.toNat)) ByteArray.empty, fun w' _ => ?_⟩
      rw [run_convert_bytes_string w' 98 9 5 _ 0 cap Yba.underlying98 Yba.underlying5 Yba.underlying9]
      exact run_bytesToString w' _ 0 cap [] (by simpa using run_loadCells_list (P := Yba.prog) w' a [] (fun j v hj => by simp at hj))
    · obtain ⟨b, off, spot⟩ := a
      have hspot : spot = none := by simpa [Addr.add] using World.cell?_spot (hcell 0 (by omega))
      subst hspot
      refine ⟨strOfNums (zs.take len), fun w' hb => ?_⟩
      refine run_convert_bytes_arg w' 98 5 Yba.underlying98 Yba.underlying5 b off len cap (zs.take len) (by simp; omega) (fun i hi => ?_) 9 Yba.underlying9
      have hc := hcell i (by omega)
      rw [add_plain'] at hc
      rw [cell_later hb hc]
      simp [List.getD, hi]

set_option maxRecDepth 100000 in
/-- A []ZzS5786AMsg that was read. -/
theorem open_msgs {H : Type} {enc : TypeId × Value → H} {W : World} {fuel : Nat} {a : Option Addr} {len cap : Nat} {x : DataW H × List MemPlace} (h : DataW.trod enc Yba.prog W 0 (fun _ => true) true fuel 22 [.slice a len cap] = some x) :
    ((x.1 = .nil ∧ len = 0) ∨ ∃ elems spare, x.1 = .slice elems spare ∧ elems.length = len) ∧ ∃ zs : List Msg, zs.length = len ∧ ZRow W a zs := by
  rcases open_slice Yba.underlying22 h with ⟨hcs, hx⟩ | ⟨a', len', cap', m, n, D, Pl, hcs, _, hl, hm, hmm, hx, hel⟩
  · simp only [List.cons.injEq, Value.slice.injEq, and_true] at hcs
    obtain ⟨rfl, rfl, rfl⟩ := hcs
    exact ⟨.inl ⟨by rw [hx], rfl⟩, [], rfl, fun i z hz => by simp at hz⟩
  · simp only [List.cons.injEq, Value.slice.injEq, and_true] at hcs
    obtain ⟨rfl, rfl, rfl⟩ := hcs
    simp only [if_true] at hmm
    subst hmm
    refine ⟨.inr ⟨_, _, by rw [hx], by simp⟩, ?_⟩
    rw [Yba.cells117] at hel
    have hsp : 0 < len → a'.spot = none := fun h0 => by
      obtain ⟨cs', h1, _⟩ := hel 0 (by omega)
      obtain ⟨_, hlen, hc⟩ := World.cells?_some h1
      have c0 := hc 0 (by omega)
      simp only [Nat.zero_mul, Addr.add, if_true] at c0
      rw [List.getElem?_eq_getElem (by omega)] at c0
      exact World.cell?_spot c0
    have key : ∀ i, i < len → ∃ z : Msg, ∃ b off, a' = ⟨b, off, none⟩ ∧
        W.cell? ⟨b, off + i * 6, none⟩ = some (.int .u8 z.s) ∧ W.cell? ⟨b, off + i * 6 + 1, none⟩ = some (.int .u64 z.inc) ∧ W.cell? ⟨b, off + i * 6 + 2, none⟩ = some (.int .u64 z.seq) ∧
        W.cell? ⟨b, off + i * 6 + 3, none⟩ = some (.int .u64 z.arr) ∧ W.cell? ⟨b, off + i * 6 + 4, none⟩ = some (.slice z.pa z.pl z.pc) ∧ W.cell? ⟨b, off + i * 6 + 5, none⟩ = some (.bool z.nb) ∧
        0 ≤ z.s ∧ PayOk W (.slice z.pa z.pl z.pc) := by
      intro i hi
      obtain ⟨cs', h1, h2⟩ := hel i (by omega)
      obtain ⟨_, hlen, hc⟩ := World.cells?_some h1
      obtain ⟨xs, k, _, _, _, hxl, hf⟩ := DataW.trod_struct Yba.underlying117 h2
      match cs', hlen with
      | [v0, v1, v2, v3, v4, v5], _ =>
        have hg : ∀ j, j < 6 → ∃ y, xs[j]? = some y := fun j hj => ⟨xs[j]'(by rw [hxl]; exact hj), by simp [hxl, hj]⟩
        obtain ⟨y0, g0⟩ := hg 0 (by omega)
        obtain ⟨y1, g1⟩ := hg 1 (by omega)
        obtain ⟨y2, g2⟩ := hg 2 (by omega)
        obtain ⟨y3, g3⟩ := hg 3 (by omega)
        obtain ⟨y4, g4⟩ := hg 4 (by omega)
        obtain ⟨y5, g5⟩ := hg 5 (by omega)
        have f0 := hf 0 _ rfl
        have f1 := hf 1 _ rfl
        have f2 := hf 2 _ rfl
        have f3 := hf 3 _ rfl
        have f4 := hf 4 _ rfl
        have f5 := hf 5 _ rfl
        rw [g0] at f0
        rw [g1] at f1
        rw [g2] at f2
        rw [g3] at f3
        rw [g4] at f4
        rw [g5] at f5
        simp [Yba.cells5, Yba.cells24, Yba.cells98, Yba.cells4] at f0 f1 f2 f3 f4 f5
        obtain ⟨s, e0, _, ws⟩ := DataW.trod_int Yba.underlying5 f0
        obtain ⟨inc, e1, _⟩ := DataW.trod_int Yba.underlying24 f1
        obtain ⟨seq, e2, _⟩ := DataW.trod_int Yba.underlying24 f2
        obtain ⟨arr, e3, _⟩ := DataW.trod_int Yba.underlying24 f3
        obtain ⟨pa, pl, pc, e4, hp⟩ := pay_ok f4
        obtain ⟨nb, e5, _⟩ := DataW.trod_bool Yba.underlying4 f5
        simp only [List.cons.injEq, and_true] at e0 e1 e2 e3 e5
        subst e0 e1 e2 e3 e4 e5
        obtain ⟨b, off, spot⟩ := a'
        have hspot : spot = none := hsp (by omega)
        subst hspot
        refine ⟨⟨s, inc, seq, arr, pa, pl, pc, nb⟩, b, off, rfl, ?_, ?_, ?_, ?_, ?_, ?_, ?_, hp⟩
        · simpa [add_plain'] using hc 0 (by omega)
        · simpa [add_plain'] using hc 1 (by omega)
        · simpa [add_plain'] using hc 2 (by omega)
        · simpa [add_plain'] using hc 3 (by omega)
        · simpa [add_plain'] using hc 4 (by omega)
        · simpa [add_plain'] using hc 5 (by omega)
        · exact (bounds_u8 ws).1
    obtain ⟨f, hf⟩ := @choose_lt Msg ⟨msgZ⟩ len _ key
    refine ⟨(List.range len).map f, by simp, fun i z hz => ?_⟩
    simp only [List.getElem?_map, Option.map_eq_some_iff] at hz
    obtain ⟨j, hj, rfl⟩ := hz
    obtain ⟨hlt, rfl⟩ := List.getElem?_eq_some_iff.1 hj
    simp only [List.length_range] at hlt
    obtain ⟨b, off, rfl, rest⟩ := hf i hlt
    simp only [List.getElem_range]
    exact ⟨b, off, rfl, rest⟩
end Go.Proofs.Ybulkdouo
