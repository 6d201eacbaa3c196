import Derived.Test.YbulkdoyiDoorRows
import Derived.Test.YbulkdoyiDoorCards
import Derived.Test.YbulkdoyiDoorTie
import Derived.Test.YbulkdoyiDoorWalk
import Derived.ProofKit
import Derived.OpenShut
import Derived.ChangeOld
import Derived.ChangeVars
import Derived.RowKitTokens
import Derived.LaidLaws
import Derived.Stop.LaidErr
import Derived.SizedLaws
import Derived.SevenTiedAt
import Derived.WalkSmall
namespace Go.Proofs.YbulkdoyiDoor
open Go.ChangeShapes Go.WideShapes Go.ChangeAt Go.RowKit

theorem own : ownKnob Ybad.prog.godebug = none := by kernel_rfl
theorem laidOut : laidOutB Ybad.prog = true := by kernel_rfl
/-- The two variables' names and the error type's, off the given texts. -/
def nmC : String := Rows.lawS5793AWholeSpec.vars.getD 0 ""
def nmO : String := Rows.lawS5793AWholeSpec.vars.getD 1 ""
def nmE : String := match (Rows.laid_example_com_kifuvault_kifuvault_vault_errOverrun : DataW Unit) with | .iface n _ => n | _ => ""
theorem Ybad.corrupt : Ybad.prog.globalNamed nmC = some 0 := by kernel_rfl
theorem Ybad.overrun : Ybad.prog.globalNamed nmO = some 1 := by kernel_rfl
theorem Ybad.corruptType : (Ybad.prog.globals[0]?).map (·.type) = some 25 := by kernel_rfl
theorem Ybad.overrunType : (Ybad.prog.globals[1]?).map (·.type) = some 25 := by kernel_rfl
theorem Ybad.cells57 : Ybad.prog.cellsOf 57 = 1 := by kernel_rfl
theorem Ybad.cells9 : Ybad.prog.cellsOf 9 = 1 := by kernel_rfl
theorem Ybad.cells5 : Ybad.prog.cellsOf 5 = 1 := by kernel_rfl
theorem Ybad.bytes5 : Ybad.prog.bytesOf 5 = 1 := by kernel_rfl
theorem Ybad.row38 (u : TypeId) (h : Ybad.prog.typeName? 3 u = some nmE) : u = 38 :=
  typeName_ptr_named (nm := "errors.errorString") (by kernel_rfl) (by kernel_rfl) (by decide) u h

/-- The []byte that was read. -/
theorem open_bytes {H : Type} {enc : TypeId × Value → H} {W : World} {fuel : Nat} {a : Option Addr} {len cap : Nat} {x : DataW H × List MemPlace} (h : DataW.trod enc Ybad.prog W 0 (fun _ => true) true fuel 23 [.slice a len cap] = some x) :
    ((x.1 = .nil ∧ len = 0) ∨ ∃ elems spare, x.1 = .slice elems spare ∧ elems.length = len) ∧ (a = none → len = 0 ∧ cap = 0) ∧ ∃ zs : List Int, zs.length = len ∧ BRow W a zs := by
  rcases open_ints Ybad.underlying23 Ybad.underlying5 Ybad.cells5 h with ⟨hcs, hx⟩ | ⟨a', len', cap', zs, hcs, _, hl, hm, hz, hx, hcell, _⟩
  · simp only [List.cons.injEq, Value.slice.injEq, and_true] at hcs
    obtain ⟨rfl, rfl, rfl⟩ := hcs
    exact ⟨.inl ⟨by rw [hx], rfl⟩, fun _ => ⟨rfl, rfl⟩, [], rfl, fun i z hz => by simp at hz⟩
  · simp only [List.cons.injEq, Value.slice.injEq, and_true] at hcs
    obtain ⟨rfl, rfl, rfl⟩ := hcs
    simp only [if_true] at hz
    refine ⟨.inr ⟨_, _, by rw [hx], by simp [lits]; omega⟩, (fun e => by cases e), zs.take len, by simp; omega, fun i y hy => ?_⟩
    rw [List.getElem?_take] at hy
    split at hy
    · rename_i hi
      obtain ⟨b, off, spot⟩ := a'
      have hspot : spot = none := by simpa [Addr.add] using World.cell?_spot (hcell 0 (by omega))
      subst hspot
      refine ⟨b, off, rfl, ?_⟩
      have := hcell i (by omega)
      have hadd : (⟨b, off, none⟩ : Addr).add i = ⟨b, off + i, none⟩ := by unfold Addr.add; split <;> simp_all
      rw [hadd] at this
      rw [this]
      simp [List.getD, hy]
    · cases hy

/-- The named variables read again as tokens. -/
theorem vars_read {H : Type} (enc : TypeId × Value → H) {W : World} {x0 x1 : Value} (h0 : W.var? Ybad.prog nmC = some #[x0]) (h1 : W.var? Ybad.prog nmO = some #[x1]) (i0 : IsIface x0) (i1 : IsIface x1) (sp : Nat → Bool) :
    DataW.TrodVars enc Ybad.prog W sp [nmC, nmO] [tok enc x0, tok enc x1] [.cell 0 0, .cell 1 0] :=
  vars_read2 enc Ybad.corrupt Ybad.corruptType Ybad.underlying25 h0 i0 Ybad.overrun Ybad.overrunType Ybad.underlying25 h1 i1 sp

/-! ### The witness: a world in which the sentinels lie as their initialisers lay them -/
def overS : ByteArray := { data := #[116, 104, 101, 32, 99, 111, 100, 101, 100, 32, 103, 97, 109, 101, 32, 114, 117, 110, 115, 32, 112, 97, 115, 116, 32, 116, 104, 101, 32, 101, 110, 100, 32, 111, 102, 32, 105, 116, 115, 32, 114, 101, 99, 111, 114, 100] }
def corrS : ByteArray := { data := #[116, 104, 101, 32, 99, 111, 100, 101, 100, 32, 103, 97, 109, 101, 32, 104, 111, 108, 100, 115, 32, 97, 32, 110, 117, 109, 98, 101, 114, 32, 110, 111, 32, 115, 121, 109, 98, 111, 108, 32, 104, 97, 115] }
theorem laidWorld_met (os : Os) (args : Array Value) : laidMet Ybad.prog Rows.lawS5793AWholeRow.laid (({ (World.holding Ybad.prog os ⟨#[.cells #[.string corrS] 57, .cells #[.string overS] 57], #[], []⟩) with heap := ((World.holding Ybad.prog os ⟨#[.cells #[.string corrS] 57, .cells #[.string overS] 57], #[], []⟩).heap.modify 0 fun | .cells _ t frozen => .cells #[.iface 38 (.pointer (some ⟨(World.holding Ybad.prog default ⟨#[], #[], []⟩).heap.size, 0, none⟩))] t frozen | o => o).modify 1 fun | .cells _ t frozen => .cells #[.iface 38 (.pointer (some ⟨(World.holding Ybad.prog default ⟨#[], #[], []⟩).heap.size + 1, 0, none⟩))] t frozen | o => o } : World).forCall (fun _ _ => 0) ⟨#[], args, []⟩).memory :=
  laidMet_of_run (ps := [.cell 1 0, .cell ((World.holding Ybad.prog default ⟨#[], #[], []⟩).heap.size + 1) 0, .cell 0 0, .cell ((World.holding Ybad.prog default ⟨#[], #[], []⟩).heap.size) 0]) 8 (by kernel_rfl) (by kernel_rfl) (by kernel_rfl)

set_option maxHeartbeats 1000000 in
set_option maxRecDepth 100000 in
theorem lifted (os : Os) (started : os.Started) (H : Type) (enc : TypeId × Value → H) :
    ReturnsInHanded {} Ybad.checked os 3 .any (fun w args => (Rows.lawS5793AWholeSpec.pre enc Ybad.prog Ybad.f3 [] false w args ∧ laidMet Ybad.prog Rows.lawS5793AWholeRow.laid w) ∧ sizedMet enc Ybad.prog Ybad.f3 (OpenSpec.ofChange Rows.lawS5793AWholeSpec) false w args)
      (Rows.lawS5793AWholeSpec.post enc Ybad.prog Ybad.f3 false true false false) := by
  refine returnsInHanded_of_change_and (C := Ybad.checked) (X := fun w _ => laidMet Ybad.prog Rows.lawS5793AWholeRow.laid w) (fun _ _ _ hh h => h.of_heap hh) own started (by kernel_rfl) Ybad.func3
    (ChangeSpec.witness_at (enc := enc) (C := Ybad.checked) (os := os) (X := fun w _ => laidMet Ybad.prog Rows.lawS5793AWholeRow.laid w) false ({ (World.holding Ybad.prog os ⟨#[.cells #[.string corrS] 57, .cells #[.string overS] 57], #[], []⟩) with heap := ((World.holding Ybad.prog os ⟨#[.cells #[.string corrS] 57, .cells #[.string overS] 57], #[], []⟩).heap.modify 0 fun | .cells _ t frozen => .cells #[.iface 38 (.pointer (some ⟨(World.holding Ybad.prog default ⟨#[], #[], []⟩).heap.size, 0, none⟩))] t frozen | o => o).modify 1 fun | .cells _ t frozen => .cells #[.iface 38 (.pointer (some ⟨(World.holding Ybad.prog default ⟨#[], #[], []⟩).heap.size + 1, 0, none⟩))] t frozen | o => o } : World) #[.int .u32 0, .slice none 0 0, .int .i64 0, .int .u32 0, .int .u32 0, .int .u8 0] 8 rfl (by kernel_rfl) (by kernel_rfl) (by kernel_rfl) (by kernel_rfl) (by kernel_rfl) (laidWorld_met os _)) ?_
  intro W base args ds gs before hval0 hW _ hsz0 hL _
  have hsz : (DataW.weightsEach Ybad.prog (Ybad.f3.params.toList ++ Rows.lawS5793AWholeSpec.plain.varTypes Ybad.prog) (ds ++ gs)).all (· ≤ reachBytes) = true := hsz0
  clear hsz0
  have hval : ∀ (j : Nat) t v, Ybad.f3.params[j]? = some t → args[j]? = some v → Value.okWide Ybad.prog W .any base t v := hval0
  have hW' := hW
  obtain ⟨p, q, hA0, hV0, rfl, hfz, hnd⟩ := hW
  have hA : DataW.TrodAll enc Ybad.prog W 0 (fun _ => true) true Ybad.f3.params.toList args.toList ds p := hA0
  have hV : DataW.TrodVars enc Ybad.prog W (fun _ => true) [nmC, nmO] gs q := hV0
  rw [Ybad.params3] at hA hval hsz
  obtain ⟨v0, vs0, d0, ds0, p0, q0, hargs, rfl, rfl, h0, r0⟩ := trodAll_cons hA
  obtain ⟨v1, vs1, d1, ds1, p1, q1, rfl, rfl, rfl, h1, r1⟩ := trodAll_cons r0
  obtain ⟨v2, vs2, d2, ds2, p2, q2, rfl, rfl, rfl, h2, r2⟩ := trodAll_cons r1
  obtain ⟨v3, vs3, d3, ds3, p3, q3, rfl, rfl, rfl, h3, r3⟩ := trodAll_cons r2
  obtain ⟨v4, vs4, d4, ds4, p4, q4, rfl, rfl, rfl, h4, r4⟩ := trodAll_cons r3
  obtain ⟨v5, vs5, d5, ds5, p5, q5, rfl, rfl, rfl, h5, r5⟩ := trodAll_cons r4
  obtain ⟨rfl, rfl, rfl⟩ := trodAll_nil r5
  obtain rfl : args = #[v0, v1, v2, v3, v4, v5] := by cases args; simp_all
  obtain ⟨a1, s1, hv1, hc1, hs1, hz1⟩ := laid_sentinel hL Ybad.overrun Ybad.overrunType Ybad.underlying25 Ybad.row38 Ybad.underlying38 Ybad.underlying57 rfl rfl Ybad.underlying9 Ybad.cells57 Ybad.cells9
  obtain ⟨a0, s0, hv0, hc0, hs0, hz0⟩ := laid_sentinel hL.tail Ybad.corrupt Ybad.corruptType Ybad.underlying25 Ybad.row38 Ybad.underlying38 Ybad.underlying57 rfl rfl Ybad.underlying9 Ybad.cells57 Ybad.cells9
  obtain ⟨rfl, rfl⟩ := hV.unique (vars_read enc hv0 hv1 trivial trivial _)
  have hg0 : W.cell? ⟨0, 0, none⟩ = some (.iface 38 (.pointer (some a0))) := by simpa using World.var?_cell Ybad.corrupt hv0 0
  have hg1 : W.cell? ⟨1, 0, none⟩ = some (.iface 38 (.pointer (some a1))) := by simpa using World.var?_cell Ybad.overrun hv1 0
  have lg0 : 0 < W.heap.size := World.block_lt_of_cell? W _ hg0
  have lg1 : 1 < W.heap.size := World.block_lt_of_cell? W _ hg1
  obtain ⟨total, rfl, rfl, rfl, w0⟩ := open_int Ybad.underlying22 (hval 0 22 v0 rfl rfl) h0
  obtain ⟨a, n, c, rfl⟩ := okWide_slice Ybad.underlying23 (hval 1 23 v1 rfl rfl)
  obtain ⟨rd, rfl, rfl, rfl, w2⟩ := open_int Ybad.underlying3 (hval 2 3 v2 rfl rfl) h2
  obtain ⟨code, rfl, rfl, rfl, w3⟩ := open_int Ybad.underlying22 (hval 3 22 v3 rfl rfl) h3
  obtain ⟨rng, rfl, rfl, rfl, w4⟩ := open_int Ybad.underlying22 (hval 4 22 v4 rfl rfl) h4
  obtain ⟨sel, rfl, rfl, rfl, w5⟩ := open_int Ybad.underlying5 (hval 5 5 v5 rfl rfl) h5
  have k1 := h1
  have lt1 : ∀ x ∈ p1, x.block < W.heap.size := by obtain ⟨m, hm⟩ := k1; exact DataW.trod_lt m _ _ _ hm
  have hl1 : n ≤ 140737488351232 := by
    obtain ⟨m, hm⟩ := h1
    rcases (open_bytes (a := a) (len := n) (cap := c) hm).1 with ⟨_, h⟩ | ⟨es, sp, e, hl⟩
    · omega
    · simp only at e
      subst e
      have := sized_slice hsz (j := 1) (t := 23) (e := 5) rfl rfl Ybad.underlying23
      rw [Ybad.bytes5] at this
      simp only [reachBytes] at this
      omega
  obtain ⟨hnil, zs, hzs, hbr⟩ : (a = none → n = 0 ∧ c = 0) ∧ ∃ zs : List Int, zs.length = n ∧ BRow W a zs := by obtain ⟨m, hm⟩ := h1; exact (open_bytes (a := a) (len := n) (cap := c) hm).2
  subst hzs
  clear hA0 hV0 hval0
  refine (main_walk total rd code rng sel a c zs a0 a1 W (bounds_u32 w0) (bounds_u32 w3) (bounds_u32 w4) (bounds_u8 w5) hbr hl1 hnil hg0 hg1).mono fun e W' ⟨he, bel⟩ => ?_
  subst he
  refine ⟨_, rfl, _, _, _, [], [] ++ (p1 ++ ([] ++ ([] ++ ([] ++ ([] ++ []))))), [.cell 0 0, .cell 1 0], hW', trodAll_mk1 (shut_bool Ybad.underlying4 _), ?_, ?_, bel.frame _, fun h => by cases h⟩
  · exact (trodAll_cons_mk (shut_int Ybad.underlying22 w0) (trodAll_cons_mk (Below.trod laidOut (by kernel_rfl) (of_decide_eq_true (by kernel_rfl)) k1 bel lt1) (trodAll_cons_mk (shut_int Ybad.underlying3 w2) (trodAll_cons_mk (shut_int Ybad.underlying22 w3) (trodAll_cons_mk (shut_int Ybad.underlying22 w4) (trodAll_cons_mk (shut_int Ybad.underlying5 w5) trodAll_mk0))))))
  · exact vars_read enc (var?_below bel Ybad.corrupt lg0 hv0) (var?_below bel Ybad.overrun lg1 hv1) trivial trivial _

theorem over : Rows.LawS5793AWholeSaid :=
  OpenClaim.holds_of_wide 3 Ybad.f3 rfl rfl rfl rfl rfl rfl rfl ⟨rfl, rfl, rfl, rfl, rfl⟩ rfl rfl rfl rfl rfl (by kernel_rfl) Ybad.func3 (by kernel_rfl)
    (of_decide_eq_true (by kernel_rfl)) (by unfold Func.isWrapper; first | (rw [if_pos (by decide +kernel)]; kernel_rfl) | (rw [if_neg (by decide +kernel)]; exact ⟨rfl, rfl⟩))
    (fun os started H enc _ => lifted os started H enc)

/-- The statement: the tied card. -/
theorem lawS5793AWhole_card : Rows.LawS5793AWholeCardSaid :=
  Claim7.holds_tied_plain_at .later [] [.sentinel, .sentinel] true (true, "f121e90adaa33c0424446274068188c5d698dd55902f658f6fe35b8d618e3ab8") true
    over (fun _ h => by cases h) (by kernel_rfl) (fun _ h => by cases h) lawS5793AWhole_row_tie rfl ⟨rfl, rfl⟩ (by kernel_rfl) rfl
    (fun f fn hf hfn => by
      obtain rfl : f = 3 := Option.some.inj ((show Ybad.prog.funcNamed Rows.lawS5793AWholeRow.func = some 3 by kernel_rfl).symm.trans hf) |>.symm
      obtain rfl : fn = Ybad.f3 := (Option.some.inj (Ybad.func3.symm.trans hfn)).symm
      exact ⟨by kernel_rfl, fun j t ht => by
        rw [Ybad.params3] at ht
        have h6 : t = 22 ∨ t = 23 ∨ t = 3 ∨ t = 5 := by
          rcases j with _ | _ | _ | _ | _ | _ | j <;> simp at ht <;> subst ht <;> decide
        rcases h6 with rfl | rfl | rfl | rfl
        · exact (show Ybad.prog.wantsStandIn 22 = false by kernel_rfl)
        · exact (show Ybad.prog.wantsStandIn 23 = false by kernel_rfl)
        · exact (show Ybad.prog.wantsStandIn 3 = false by kernel_rfl)
        · exact (show Ybad.prog.wantsStandIn 5 = false by kernel_rfl)⟩)
    (by kernel_rfl)
#print axioms lawS5793AWhole_card
end Go.Proofs.YbulkdoyiDoor
