import Derived.Test.YbulkdoywRows
import Derived.Test.YbulkdoywCScriptWalk
import Derived.ProofKit
import Derived.OpenShut
import Derived.ChangeOld
import Derived.Deep.Slices
import Derived.DataShut
namespace Go.Proofs.Ybulkdoyw.CScript
open Go.ChangeShapes Go.WideShapes Go.ChangeAt Go.RowKit Go.Deep

theorem own : ownKnob Yba.prog.godebug = none := by kernel_rfl
theorem laidOut : laidOutB Yba.prog = true := by kernel_rfl
theorem cells65 : Yba.prog.cellsOf 65 = 2 := by kernel_rfl
theorem cells5 : Yba.prog.cellsOf 5 = 1 := by kernel_rfl
theorem cells3 : Yba.prog.cellsOf 3 = 1 := by kernel_rfl
theorem add_plain' (b off j : Nat) : (⟨b, off, none⟩ : Addr).add j = ⟨b, off + j, none⟩ := by unfold Addr.add; split <;> simp_all

set_option maxRecDepth 100000 in
/-- A []ZzS5794CStep that was read. -/
theorem open_steps {H : Type} {enc : TypeId × Value → H} {W : World} {fuel : Nat} {a : Option Addr} {len cap : Nat} {x : DataW H × List MemPlace} (h : DataW.trod enc Yba.prog W 0 (fun _ => true) true fuel 63 [.slice a len cap] = some x) :
    ∃ zs : List (Int × Int), zs.length = len ∧ StepRow W a zs := by
  rcases open_slice Yba.underlying63 h with ⟨hcs, hx⟩ | ⟨a', len', cap', m, n, D, Pl, hcs, _, hl, hm, hmm, hx, hel⟩
  · simp only [List.cons.injEq, Value.slice.injEq, and_true] at hcs
    obtain ⟨rfl, rfl, rfl⟩ := hcs
    exact ⟨[], rfl, fun i z hz => by simp at hz⟩
  · simp only [List.cons.injEq, Value.slice.injEq, and_true] at hcs
    obtain ⟨rfl, rfl, rfl⟩ := hcs
    simp only [if_true] at hmm
    subst hmm
    rw [cells65] at hel
    have hsp : 0 < len → a'.spot = none := fun h0 => by
      obtain ⟨cs', h1, _⟩ := hel 0 (by omega)
      obtain ⟨_, hlen, hc⟩ := World.cells?_some h1
      have c0 := hc 0 (by omega)
      simp only [Nat.zero_mul, Addr.add, if_true] at c0
      rw [List.getElem?_eq_getElem (by omega)] at c0
      exact World.cell?_spot c0
    have key : ∀ i, i < len → ∃ z : Int × Int, (0 ≤ z.1 ∧ z.1 ≤ 255) ∧ (-9223372036854775808 ≤ z.2 ∧ z.2 ≤ 9223372036854775807) ∧ ∃ b off, some a' = some ⟨b, off, none⟩ ∧
        W.cell? ⟨b, off + i * 2, none⟩ = some (.int .u8 z.1) ∧ W.cell? ⟨b, off + i * 2 + 1, none⟩ = some (.int .i64 z.2) := by
      intro i hi
      obtain ⟨cs', h1, h2⟩ := hel i (by omega)
      obtain ⟨_, hlen, hc⟩ := World.cells?_some h1
      obtain ⟨xs, k, _, _, _, hxl, hf⟩ := DataW.trod_struct Yba.underlying65 h2
      match cs', hlen with
      | [v0, v1], _ =>
        have hg : ∀ j, j < 2 → ∃ y, xs[j]? = some y := fun j hj => ⟨xs[j]'(by rw [hxl]; exact hj), by simp [hxl, hj]⟩
        obtain ⟨y0, g0⟩ := hg 0 (by omega)
        obtain ⟨y1, g1⟩ := hg 1 (by omega)
        have f0 := hf 0 _ rfl
        have f1 := hf 1 _ rfl
        rw [g0] at f0
        rw [g1] at f1
        simp [cells5, cells3] at f0 f1
        obtain ⟨s, e0, _, ws⟩ := DataW.trod_int Yba.underlying5 f0
        obtain ⟨sz, e1, _, wz⟩ := DataW.trod_int Yba.underlying3 f1
        simp only [List.cons.injEq, and_true] at e0 e1
        subst e0 e1
        obtain ⟨b, off, spot⟩ := a'
        have hspot : spot = none := hsp (by omega)
        subst hspot
        refine ⟨⟨s, sz⟩, (Lit.wf_int_iff .u8 s).1 ws, (Lit.wf_int_iff .i64 sz).1 wz, b, off, rfl, ?_, ?_⟩
        · simpa [add_plain'] using hc 0 (by omega)
        · simpa [add_plain'] using hc 1 (by omega)
    obtain ⟨f, hf⟩ := @choose_lt (Int × Int) ⟨(0, 0)⟩ len _ key
    refine ⟨(List.range len).map f, by simp, fun i z hz => ?_⟩
    simp only [List.getElem?_map, Option.map_eq_some_iff] at hz
    obtain ⟨j, hj, rfl⟩ := hz
    obtain ⟨hlt, rfl⟩ := List.getElem?_eq_some_iff.1 hj
    simp only [List.length_range] at hlt
    simp only [List.getElem_range]
    exact hf i hlt

set_option maxRecDepth 100000 in
theorem lifted (os : Os) (started : os.Started) (H : Type) (enc : TypeId × Value → H) :
    ReturnsInHanded {} Yba.checked os 6 .any (Rows.lawS5794CScriptSpec.pre6 enc Yba.prog Yba.f6 Rows.lawS5794CScriptRow.domain false) (Rows.lawS5794CScriptSpec.post enc Yba.prog Yba.f6 false true false false) := by
  refine returnsInHanded_of_change (C := Yba.checked) own started (by kernel_rfl) Yba.func6
    (ChangeSpec.witness6 (enc := enc) (C := Yba.checked) false ⟨#[], #[.int .i64 0, .slice none 0 0], []⟩ 8 (by kernel_rfl) (by kernel_rfl) (by kernel_rfl) (by kernel_rfl)) ?_
  intro W base args ds gs before hval0 hW hcnd _
  have hval : ∀ (j : Nat) t v, Yba.f6.params[j]? = some t → args[j]? = some v → Value.okWide Yba.prog W .any base t v := hval0
  have hW' := hW
  obtain ⟨p, q, hA0, hV, rfl, hfz, hnd⟩ := hW
  have hA : DataW.TrodAll enc Yba.prog W 0 (fun _ => true) true Yba.f6.params.toList args.toList ds p := hA0
  rw [Yba.params6] at hA hval
  obtain ⟨v0, vs0, d0, ds0, p0, q0, hargs, rfl, rfl, h0, r0⟩ := trodAll_cons hA
  obtain ⟨v1, vs1, d1, ds1, p1, q1, rfl, rfl, rfl, h1, r1⟩ := trodAll_cons r0
  obtain ⟨rfl, rfl, rfl⟩ := trodAll_nil r1
  obtain rfl : args = #[v0, v1] := by cases args; simp_all
  obtain ⟨rfl, rfl⟩ := trodVars_none hV
  obtain ⟨limit, rfl, rfl, rfl, w0⟩ := open_int Yba.underlying3 (hval 0 3 v0 rfl rfl) h0
  obtain ⟨a, n, c, rfl⟩ := okWide_slice Yba.underlying63 (hval 1 63 v1 rfl rfl)
  have k1 := h1
  have lt1 : ∀ x ∈ p1, x.block < W.heap.size := by obtain ⟨m, hm⟩ := k1; exact DataW.trod_lt m _ _ _ hm
  obtain ⟨xs, hxs, hrow⟩ : ∃ xs : List (Int × Int), xs.length = n ∧ StepRow W a xs := by obtain ⟨m, hm⟩ := h1; exact open_steps (a := a) (len := n) (cap := c) hm
  clear hA0 hval0
  have hr : -9223372036854775808 ≤ limit ∧ limit ≤ 9223372036854775807 := (Lit.wf_int_iff .i64 limit).1 w0
  have hcall : Calls Yba.prog 6 #[.int .i64 limit, .slice a n c] W fun e w' => e = .returned (.bool true) ∧ Below W.heap.size W w' := by
    by_cases hn : n ≤ 4096
    · subst hxs
      exact cscript_walk limit hr a c xs W hrow hn
    · exact cscript_big limit a n c W (by omega)
  refine hcall.mono fun e W' ⟨he, bel⟩ => ?_
  subst he
  exact ⟨_, rfl, _, _, _, [], _, [], hW', trodAll_mk1 (shut_bool Yba.underlying4 _), (trodAll_cons_mk (shut_int Yba.underlying3 w0) (trodAll_cons_mk (Below.trod laidOut (by kernel_rfl) (of_decide_eq_true (by kernel_rfl)) k1 bel lt1) trodAll_mk0)), rfl, bel.frame _, fun h => by cases h⟩

theorem over : Rows.lawS5794CScriptRow.holds Yba.pinned (OpenSpec.ofChange Rows.lawS5794CScriptSpec) :=
  OpenClaim.holds_of_wide 6 Yba.f6 rfl rfl rfl rfl rfl rfl rfl ⟨rfl, rfl, rfl, rfl, rfl⟩ rfl rfl rfl rfl rfl (by kernel_rfl) Yba.func6 (by kernel_rfl)
    (of_decide_eq_true (by kernel_rfl)) (by unfold Func.isWrapper; first | (rw [if_pos (by decide +kernel)]; kernel_rfl) | (rw [if_neg (by decide +kernel)]; exact ⟨rfl, rfl⟩))
    (fun os started H enc _ => lifted os started H enc)
end Go.Proofs.Ybulkdoyw.CScript

namespace Go.Proofs.Ybulkdoyw
/-- The statement. -/
theorem lawS5794CScript_proved : Rows.LawS5794CScriptSaid := CScript.over
#print axioms lawS5794CScript_proved
end Go.Proofs.Ybulkdoyw
