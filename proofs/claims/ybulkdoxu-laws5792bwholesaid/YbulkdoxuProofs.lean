import Derived.Test.YbulkdoxuRows
import Derived.Test.YbulkdoxuWalk
import Derived.ProofKit
import Derived.OpenShut
import Derived.ChangeOld
import Derived.Deep.Slices
namespace Go.Proofs.Ybulkdoxu
open Go.ChangeShapes Go.WideShapes Go.ChangeAt Go.RowKit

theorem own : ownKnob Yba.prog.godebug = none := by kernel_rfl
theorem laidOut : laidOutB Yba.prog = true := by kernel_rfl
theorem Yba.cells22 : Yba.prog.cellsOf 22 = 188 := by kernel_rfl
theorem Yba.cells5 : Yba.prog.cellsOf 5 = 1 := by kernel_rfl

theorem okWide_arr {P : Program} {w : World} {r : Reach} {base : Nat} {t e : TypeId} {n : Nat} {v : Value} (ht : P.underlying t = some (.array n e)) (h : Value.okWide P w r base t v) : ∃ cs, v = .agg cs ∧ cs.size = P.cellsOf t := by
  simp only [Value.okWide, ht] at h
  obtain ⟨cs, h1, h2, _⟩ := h
  exact ⟨cs, h1, h2⟩

/-- The packet that was read. -/
theorem open_pkt {H : Type} {enc : TypeId × Value → H} {W : World} {fuel : Nat} {ps : Array Value} {x : DataW H × List MemPlace} (hs : ps.size = 188) (h : DataW.trod enc Yba.prog W 0 (fun _ => true) true fuel 22 ps.toList = some x) : ∃ f, IsPkt ps f := by
  obtain ⟨xs, m, _, _, _, hl, hx⟩ := DataW.trod_array Yba.underlying22 h
  have key : ∀ i, i < 188 → ∃ a : Int, ps[i]? = some (.int .u8 a) ∧ 0 ≤ a ∧ a ≤ 255 := by
    intro i hi
    have hq := hx i hi
    rw [Yba.cells5, Nat.mul_one] at hq
    have hp : ps[i]? = some (ps[i]'(by omega)) := Array.getElem?_eq_getElem (by omega)
    have e : (ps.toList.drop i).take 1 = [ps[i]'(by omega)] := by
      rw [List.drop_eq_getElem_cons (by simp; omega)]
      simp
    rw [e, List.getElem?_eq_getElem (by omega)] at hq
    obtain ⟨a, ea, _, wa⟩ := DataW.trod_int Yba.underlying5 hq
    simp only [List.cons.injEq, and_true] at ea
    exact ⟨a, by rw [hp, ea], bounds_u8 wa⟩
  obtain ⟨f, hf⟩ := @Deep.choose_lt Int ⟨0⟩ 188 _ key
  exact ⟨f, hs, fun i hi => (hf i hi).1, fun i hi => (hf i hi).2⟩

set_option maxRecDepth 100000 in
theorem lifted (os : Os) (started : os.Started) (H : Type) (enc : TypeId × Value → H) :
    ReturnsInHanded {} Yba.checked os 3 .any (Rows.lawS5792BWholeSpec.pre6 enc Yba.prog Yba.f3 Rows.lawS5792BWholeRow.domain false) (Rows.lawS5792BWholeSpec.post enc Yba.prog Yba.f3 false true false false) := by
  refine returnsInHanded_of_change (C := Yba.checked) own started (by kernel_rfl) Yba.func3
    (ChangeSpec.witness6 (enc := enc) (C := Yba.checked) false ⟨#[], #[.agg (Array.replicate 188 (.int .u8 0))], []⟩ 8 (by kernel_rfl) (by kernel_rfl) (by kernel_rfl) (by kernel_rfl)) ?_
  intro W base args ds gs before hval0 hW hcnd _
  have hval : ∀ (j : Nat) t v, Yba.f3.params[j]? = some t → args[j]? = some v → Value.okWide Yba.prog W .any base t v := hval0
  have hW' := hW
  obtain ⟨p, q, hA0, hV, rfl, hfz, hnd⟩ := hW
  have hA : DataW.TrodAll enc Yba.prog W 0 (fun _ => true) true Yba.f3.params.toList args.toList ds p := hA0
  rw [Yba.params3] at hA hval
  obtain ⟨v0, vs0, d0, ds0, p0, q0, hargs, rfl, rfl, h0, r0⟩ := trodAll_cons hA
  obtain ⟨rfl, rfl, rfl⟩ := trodAll_nil r0
  obtain rfl : args = #[v0] := by cases args; simp_all
  obtain ⟨rfl, rfl⟩ := trodVars_none hV
  obtain ⟨ps, rfl, hsz⟩ := okWide_arr Yba.underlying22 (hval 0 22 v0 rfl rfl)
  rw [Yba.cells22] at hsz
  have k0 := h0
  have lt0 : ∀ x ∈ p0, x.block < W.heap.size := by obtain ⟨m, hm⟩ := k0; exact DataW.trod_lt m _ _ _ hm
  obtain ⟨f, hf⟩ : ∃ f, IsPkt ps f := by obtain ⟨m, hm⟩ := h0; exact open_pkt hsz (by simpa [Value.cells] using hm)
  clear hA0 hval0
  refine (main_all ps f W hf).mono fun e W' ⟨he, bel⟩ => ?_
  subst he
  exact ⟨_, rfl, _, _, _, [], _, [], hW', trodAll_mk1 (shut_bool Yba.underlying4 _), (trodAll_cons_mk (Below.trod laidOut (by kernel_rfl) (of_decide_eq_true (by kernel_rfl)) k0 bel lt0) trodAll_mk0), rfl, bel.frame _, fun h => by cases h⟩

theorem over : Rows.lawS5792BWholeRow.holds Yba.pinned (OpenSpec.ofChange Rows.lawS5792BWholeSpec) :=
  OpenClaim.holds_of_wide 3 Yba.f3 rfl rfl rfl rfl rfl rfl rfl ⟨rfl, rfl, rfl, rfl, rfl⟩ rfl rfl rfl rfl rfl (by kernel_rfl) Yba.func3 (by kernel_rfl)
    (of_decide_eq_true (by kernel_rfl)) (by unfold Func.isWrapper; first | (rw [if_pos (by decide +kernel)]; kernel_rfl) | (rw [if_neg (by decide +kernel)]; exact ⟨rfl, rfl⟩))
    (fun os started H enc _ => lifted os started H enc)

/-- The statement. -/
theorem lawS5792BWhole_proved : Rows.LawS5792BWholeSaid := over
#print axioms lawS5792BWhole_proved
end Go.Proofs.Ybulkdoxu
