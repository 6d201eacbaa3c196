import Derived.Test.YbulkdoywRows
import Derived.Test.YbulkdoywScript
import Derived.ProofKit
import Derived.OpenShut
import Derived.ChangeOld
import Derived.Deep.Slices
import Derived.SizedLaws
namespace Go.Proofs.Ybulkdoyw.AScript
open Go.ChangeShapes Go.WideShapes Go.ChangeAt Go.RowKit Go.Deep

theorem own : ownKnob Yba.prog.godebug = none := by kernel_rfl
theorem laidOut : laidOutB Yba.prog = true := by kernel_rfl
theorem cells4 : Yba.prog.cellsOf 4 = 1 := by kernel_rfl
theorem bytes4 : Yba.prog.bytesOf 4 = 1 := by kernel_rfl

/-- The []bool that was read. -/
theorem open_bools {H : Type} {enc : TypeId × Value → H} {W : World} {fuel : Nat} {a : Option Addr} {len cap : Nat} {x : DataW H × List MemPlace} (h : DataW.trod enc Yba.prog W 0 (fun _ => true) true fuel 22 [.slice a len cap] = some x) :
    ((x.1 = .nil ∧ len = 0) ∨ ∃ elems spare, x.1 = .slice elems spare ∧ elems.length = len) ∧ ∃ xs : List Bool, xs.length = len ∧ BoolRow W a xs := by
  rcases open_slice1 Yba.underlying22 cells4 h with ⟨hcs, hx⟩ | ⟨a', len', cap', m, n, V, D, Pl, hcs, _, hl, hm, hmm, hx, hel⟩
  · simp only [List.cons.injEq, Value.slice.injEq, and_true] at hcs
    obtain ⟨rfl, rfl, rfl⟩ := hcs
    exact ⟨.inl ⟨by rw [hx], rfl⟩, [], rfl, fun i z hz => by simp at hz⟩
  · simp only [List.cons.injEq, Value.slice.injEq, and_true] at hcs
    obtain ⟨rfl, rfl, rfl⟩ := hcs
    simp only [if_true] at hmm
    subst hmm
    refine ⟨.inr ⟨_, _, by rw [hx], by simp⟩, ?_⟩
    have key : ∀ i, i < len → ∃ b : Bool, ∃ bb off, a' = ⟨bb, off, none⟩ ∧ W.cell? ⟨bb, off + i, none⟩ = some (.bool b) := by
      intro i hi
      obtain ⟨bb, off, spot⟩ := a'
      have hspot : spot = none := by simpa [Addr.add] using World.cell?_spot (hel 0 (by omega)).1
      subst hspot
      obtain ⟨h1, h2⟩ := hel i (by omega)
      obtain ⟨b, e, _⟩ := DataW.trod_bool Yba.underlying4 h2
      simp only [List.cons.injEq, and_true] at e
      have hadd : (⟨bb, off, none⟩ : Addr).add i = ⟨bb, off + i, none⟩ := by unfold Addr.add; split <;> simp_all
      rw [hadd, e] at h1
      exact ⟨b, bb, off, rfl, h1⟩
    obtain ⟨f, hf⟩ := @choose_lt Bool ⟨false⟩ len _ key
    refine ⟨(List.range len).map f, by simp, fun i z hz => ?_⟩
    simp only [List.getElem?_map, Option.map_eq_some_iff] at hz
    obtain ⟨j, hj, rfl⟩ := hz
    obtain ⟨hlt, rfl⟩ := List.getElem?_eq_some_iff.1 hj
    simp only [List.length_range] at hlt
    obtain ⟨bb, off, rfl, hc⟩ := hf i hlt
    simp only [List.getElem_range]
    exact ⟨bb, off, rfl, hc⟩

set_option maxRecDepth 100000 in
theorem lifted (os : Os) (started : os.Started) (H : Type) (enc : TypeId × Value → H) :
    ReturnsInHanded {} Yba.checked os 4 .any (Rows.lawS5794AScriptSpec.pre6 enc Yba.prog Yba.f4 Rows.lawS5794AScriptRow.domain false) (Rows.lawS5794AScriptSpec.post enc Yba.prog Yba.f4 false true false false) := by
  refine returnsInHanded_of_change_sized (C := Yba.checked) own started (by kernel_rfl) Yba.func4
    (ChangeSpec.witness6 (enc := enc) (C := Yba.checked) false ⟨#[], #[.bool false, .slice none 0 0], []⟩ 8 (by kernel_rfl) (by kernel_rfl) (by kernel_rfl) (by kernel_rfl)) ?_
  intro W base args ds gs before hval0 hW hcnd hsz0 _
  have hsz : (DataW.weightsEach Yba.prog (Yba.f4.params.toList ++ Rows.lawS5794AScriptSpec.plain.varTypes Yba.prog) (ds ++ gs)).all (· ≤ reachBytes) = true := hsz0
  clear hsz0
  have hval : ∀ (j : Nat) t v, Yba.f4.params[j]? = some t → args[j]? = some v → Value.okWide Yba.prog W .any base t v := hval0
  have hW' := hW
  obtain ⟨p, q, hA0, hV, rfl, hfz, hnd⟩ := hW
  have hA : DataW.TrodAll enc Yba.prog W 0 (fun _ => true) true Yba.f4.params.toList args.toList ds p := hA0
  rw [Yba.params4] at hA hval hsz
  obtain ⟨v0, vs0, d0, ds0, p0, q0, hargs, rfl, rfl, h0, r0⟩ := trodAll_cons hA
  obtain ⟨v1, vs1, d1, ds1, p1, q1, rfl, rfl, rfl, h1, r1⟩ := trodAll_cons r0
  obtain ⟨rfl, rfl, rfl⟩ := trodAll_nil r1
  obtain rfl : args = #[v0, v1] := by cases args; simp_all
  obtain ⟨rfl, rfl⟩ := trodVars_none hV
  obtain ⟨was, rfl, rfl, rfl⟩ := open_bool Yba.underlying4 (hval 0 4 v0 rfl rfl) h0
  obtain ⟨a, n, c, rfl⟩ := okWide_slice Yba.underlying22 (hval 1 22 v1 rfl rfl)
  have k1 := h1
  have lt1 : ∀ x ∈ p1, x.block < W.heap.size := by obtain ⟨m, hm⟩ := k1; exact DataW.trod_lt m _ _ _ hm
  have hl1 : n ≤ 140737488351232 := by
    obtain ⟨m, hm⟩ := h1
    rcases (open_bools (a := a) (len := n) (cap := c) hm).1 with ⟨_, h⟩ | ⟨es, sp, e, hl⟩
    · omega
    · simp only at e
      subst e
      have := sized_slice hsz (j := 1) (t := 22) (e := 4) rfl rfl Yba.underlying22
      rw [bytes4] at this
      simp only [reachBytes] at this
      omega
  obtain ⟨xs, hxs, hbr⟩ : ∃ xs : List Bool, xs.length = n ∧ BoolRow W a xs := by obtain ⟨m, hm⟩ := h1; exact (open_bools (a := a) (len := n) (cap := c) hm).2
  clear hA0 hval0
  have hcall : Calls Yba.prog 4 #[.bool was, .slice a n c] W fun e w' => e = .returned (.bool true) ∧ Below W.heap.size W w' := by
    by_cases hn : n ≤ 1048576
    · subst hxs
      exact script_walk was a c xs W hbr hn
    · exact script_big was a n c W (by omega) hl1
  refine hcall.mono fun e W' ⟨he, bel⟩ => ?_
  subst he
  exact ⟨_, rfl, _, _, _, [], _, [], hW', trodAll_mk1 (shut_bool Yba.underlying4 _), (trodAll_cons_mk (shut_bool Yba.underlying4 _) (trodAll_cons_mk (Below.trod laidOut (by kernel_rfl) (of_decide_eq_true (by kernel_rfl)) k1 bel lt1) trodAll_mk0)), rfl, bel.frame _, fun h => by cases h⟩

theorem over : Rows.lawS5794AScriptRow.holds Yba.pinned (OpenSpec.ofChange Rows.lawS5794AScriptSpec) :=
  OpenClaim.holds_of_wide 4 Yba.f4 rfl rfl rfl rfl rfl rfl rfl ⟨rfl, rfl, rfl, rfl, rfl⟩ rfl rfl rfl rfl rfl (by kernel_rfl) Yba.func4 (by kernel_rfl)
    (of_decide_eq_true (by kernel_rfl)) (by unfold Func.isWrapper; first | (rw [if_pos (by decide +kernel)]; kernel_rfl) | (rw [if_neg (by decide +kernel)]; exact ⟨rfl, rfl⟩))
    (fun os started H enc _ => lifted os started H enc)
end Go.Proofs.Ybulkdoyw.AScript

namespace Go.Proofs.Ybulkdoyw
/-- The statement. -/
theorem lawS5794AScript_proved : Rows.LawS5794AScriptSaid := AScript.over
#print axioms lawS5794AScript_proved
end Go.Proofs.Ybulkdoyw
