import Derived.Test.YbulkdouoRows
import Derived.Test.YbulkdouoWalk
import Derived.Test.YbulkdouoOpen
import Derived.SizedLaws
import Derived.ChangeOld
namespace Go.Proofs.Ybulkdouo
open Go.ChangeShapes Go.WideShapes Go.ChangeAt Go.RowKit

theorem own : ownKnob Yba.prog.godebug = none := by kernel_rfl
theorem laidOut : laidOutB Yba.prog = true := by kernel_rfl
theorem Yba.bytes117 : Yba.prog.bytesOf 117 = 64 := by kernel_rfl
theorem Yba.bytes24 : Yba.prog.bytesOf 24 = 8 := by kernel_rfl

set_option maxRecDepth 100000 in
/-- More than 1<<20 elements: true at once. -/
theorem big_walk (a0 a1 a2 : Option Addr) (n0 n1 n2 c0 c1 c2 : Nat) (due hb : Bool) (num : Int) (w : World) (h0 : n0 ≤ 140737488351232) (h1 : n1 ≤ 140737488351232) (h2 : n2 ≤ 140737488351232) (hn : 1048576 < n0 + n1 + n2) :
    Calls Yba.prog 3 #[.slice a0 n0 c0, .slice a1 n1 c1, .slice a2 n2 c2, .bool due, .int .u64 num, .bool hb] w fun e w' => e = .returned (.bool true) ∧ Below w.heap.size w w' := by
  have h3 : (1048576 : Int) < (n0 : Int) + (n1 : Int) + (n2 : Int) := by omega
  go_enter Yba.func3, Yba.ntmps3
  go_wp2_with fail
  go_ret
  exact ⟨rfl, Below.refl _ _⟩

/-- The []uint64 that was read. -/
theorem open_untils {H : Type} {enc : TypeId × Value → H} {W : World} {fuel : Nat} {a : Option Addr} {len cap : Nat} {x : DataW H × List MemPlace} (h : DataW.trod enc Yba.prog W 0 (fun _ => true) true fuel 23 [.slice a len cap] = some x) :
    ((x.1 = .nil ∧ len = 0) ∨ ∃ elems spare, x.1 = .slice elems spare ∧ elems.length = len) ∧ ∃ us : List Int, us.length = len ∧ ∀ i y, us[i]? = some y → ∃ b off, a = some ⟨b, off, none⟩ ∧ W.cell? ⟨b, off + i, none⟩ = some (.int .u64 y) := by
  rcases open_ints Yba.underlying23 Yba.underlying24 Yba.cells24 h with ⟨hcs, hx⟩ | ⟨a', len', cap', zs, hcs, _, hl, hm, hz, hx, hcell, _⟩
  · simp only [List.cons.injEq, Value.slice.injEq, and_true] at hcs
    obtain ⟨rfl, rfl, rfl⟩ := hcs
    exact ⟨.inl ⟨by rw [hx], rfl⟩, [], rfl, fun i z hz => by simp at hz⟩
  · simp only [List.cons.injEq, Value.slice.injEq, and_true] at hcs
    obtain ⟨rfl, rfl, rfl⟩ := hcs
    simp only [if_true] at hz
    refine ⟨.inr ⟨_, _, by rw [hx], by simp [lits]; omega⟩, zs.take len, by simp; omega, fun i y hy => ?_⟩
    rw [List.getElem?_take] at hy
    split at hy
    · rename_i hi
      obtain ⟨b, off, spot⟩ := a'
      have hspot : spot = none := by simpa [Addr.add] using World.cell?_spot (hcell 0 (by omega))
      subst hspot
      refine ⟨b, off, rfl, ?_⟩
      have := hcell i (by omega)
      rw [add_plain'] at this
      rw [this]
      simp [List.getD, hy]
    · cases hy

set_option maxHeartbeats 1000000 in
set_option maxRecDepth 100000 in
theorem lifted (os : Os) (started : os.Started) (H : Type) (enc : TypeId × Value → H) :
    ReturnsInHanded {} Yba.checked os 3 .any (Rows.lawS5786APartSpec.pre6 enc Yba.prog Yba.f3 Rows.lawS5786APartRow.domain false) (Rows.lawS5786APartSpec.post enc Yba.prog Yba.f3 false true false false) := by
  refine returnsInHanded_of_change_sized (C := Yba.checked) own started (by kernel_rfl) Yba.func3
    (ChangeSpec.witness6 (enc := enc) (C := Yba.checked) false ⟨#[], #[.slice none 0 0, .slice none 0 0, .slice none 0 0, .bool false, .int .u64 0, .bool false], []⟩ 8 (by kernel_rfl) (by kernel_rfl) (by kernel_rfl) (by kernel_rfl)) ?_
  intro W base args ds gs before hval0 hW hcnd hsz0 _
  have hsz : (DataW.weightsEach Yba.prog (Yba.f3.params.toList ++ Rows.lawS5786APartSpec.plain.varTypes Yba.prog) (ds ++ gs)).all (· ≤ reachBytes) = true := hsz0
  clear hsz0
  have hval : ∀ (j : Nat) t v, Yba.f3.params[j]? = some t → args[j]? = some v → Value.okWide Yba.prog W .any base t v := hval0
  have hW' := hW
  obtain ⟨p, q, hA0, hV, rfl, hfz, hnd⟩ := hW
  have hA : DataW.TrodAll enc Yba.prog W 0 (fun _ => true) true Yba.f3.params.toList args.toList ds p := hA0
  rw [Yba.params3] at hA hval hsz
  obtain ⟨v0, vs0, d0, ds0, p0, q0, hargs, rfl, rfl, h0, r0⟩ := trodAll_cons hA
  obtain ⟨v1, vs1, d1, ds1, p1, q1, rfl, rfl, rfl, h1, r1⟩ := trodAll_cons r0
  obtain ⟨v2, vs2, d2, ds2, p2, q2, rfl, rfl, rfl, h2, r2⟩ := trodAll_cons r1
  obtain ⟨v3, vs3, d3, ds3, p3, q3, rfl, rfl, rfl, h3, r3⟩ := trodAll_cons r2
  obtain ⟨v4, vs4, d4, ds4, p4, q4, rfl, rfl, rfl, h4, r4⟩ := trodAll_cons r3
  obtain ⟨v5, vs5, d5, ds5, p5, q5, rfl, rfl, rfl, h5, r5⟩ := trodAll_cons r4
  obtain ⟨rfl, rfl, rfl⟩ := trodAll_nil r5
  obtain rfl : args = #[v0, v1, v2, v3, v4, v5] := by cases args; simp_all
  obtain ⟨rfl, rfl⟩ := trodVars_none hV
  obtain ⟨a0, n0, c0, rfl⟩ := okWide_slice Yba.underlying22 (hval 0 22 v0 rfl rfl)
  obtain ⟨a1, n1, c1, rfl⟩ := okWide_slice Yba.underlying23 (hval 1 23 v1 rfl rfl)
  obtain ⟨a2, n2, c2, rfl⟩ := okWide_slice Yba.underlying22 (hval 2 22 v2 rfl rfl)
  have k0 := h0
  have k1 := h1
  have k2 := h2
  have lt0 : ∀ x ∈ p0, x.block < W.heap.size := by obtain ⟨m, hm⟩ := k0; exact DataW.trod_lt m _ _ _ hm
  have lt1 : ∀ x ∈ p1, x.block < W.heap.size := by obtain ⟨m, hm⟩ := k1; exact DataW.trod_lt m _ _ _ hm
  have lt2 : ∀ x ∈ p2, x.block < W.heap.size := by obtain ⟨m, hm⟩ := k2; exact DataW.trod_lt m _ _ _ hm
  obtain ⟨b3, rfl, rfl, rfl⟩ := open_bool Yba.underlying4 (hval 3 4 v3 rfl rfl) h3
  obtain ⟨num, rfl, rfl, rfl, w4⟩ := open_int Yba.underlying24 (hval 4 24 v4 rfl rfl) h4
  obtain ⟨b5, rfl, rfl, rfl⟩ := open_bool Yba.underlying4 (hval 5 4 v5 rfl rfl) h5
  have hl0 : n0 ≤ 140737488351232 := by
    obtain ⟨m, hm⟩ := h0
    rcases (open_msgs (a := a0) (len := n0) (cap := c0) hm).1 with ⟨_, h⟩ | ⟨es, sp, e, hl⟩
    · omega
    · simp only at e
      subst e
      have := sized_slice hsz (j := 0) (t := 22) (e := 117) rfl rfl Yba.underlying22
      rw [Yba.bytes117] at this
      simp only [reachBytes] at this
      omega
  have hl1 : n1 ≤ 140737488351232 := by
    obtain ⟨m, hm⟩ := h1
    rcases (open_untils (a := a1) (len := n1) (cap := c1) hm).1 with ⟨_, h⟩ | ⟨es, sp, e, hl⟩
    · omega
    · simp only at e
      subst e
      have := sized_slice hsz (j := 1) (t := 23) (e := 24) rfl rfl Yba.underlying23
      rw [Yba.bytes24] at this
      simp only [reachBytes] at this
      omega
  have hl2 : n2 ≤ 140737488351232 := by
    obtain ⟨m, hm⟩ := h2
    rcases (open_msgs (a := a2) (len := n2) (cap := c2) hm).1 with ⟨_, h⟩ | ⟨es, sp, e, hl⟩
    · omega
    · simp only at e
      subst e
      have := sized_slice hsz (j := 2) (t := 22) (e := 117) rfl rfl Yba.underlying22
      rw [Yba.bytes117] at this
      simp only [reachBytes] at this
      omega
  obtain ⟨zp, hzp, ZP⟩ : ∃ zs : List Msg, zs.length = n0 ∧ ZRow W a0 zs := by obtain ⟨m, hm⟩ := h0; exact (open_msgs (a := a0) (len := n0) (cap := c0) hm).2
  obtain ⟨us, hus, US⟩ : ∃ us : List Int, us.length = n1 ∧ ∀ i y, us[i]? = some y → ∃ b off, a1 = some ⟨b, off, none⟩ ∧ W.cell? ⟨b, off + i, none⟩ = some (.int .u64 y) := by obtain ⟨m, hm⟩ := h1; exact (open_untils (a := a1) (len := n1) (cap := c1) hm).2
  obtain ⟨zm, hzm, ZM⟩ : ∃ zs : List Msg, zs.length = n2 ∧ ZRow W a2 zs := by obtain ⟨m, hm⟩ := h2; exact (open_msgs (a := a2) (len := n2) (cap := c2) hm).2
  clear hA0 hval0
  have hcall : Calls Yba.prog 3 #[.slice a0 n0 c0, .slice a1 n1 c1, .slice a2 n2 c2, .bool b3, .int .u64 num, .bool b5] W fun e w' => e = .returned (.bool true) ∧ Below W.heap.size W w' := by
    by_cases hn : n0 + n1 + n2 ≤ 1048576
    · subst hzp hus hzm
      exact main_walk a0 a1 a2 c0 c1 c2 zp zm us b3 b5 num W ZP ZM US hn
    · exact big_walk a0 a1 a2 n0 n1 n2 c0 c1 c2 b3 b5 num W hl0 hl1 hl2 (by omega)
  refine hcall.mono fun e W' ⟨he, bel⟩ => ?_
  subst he
  exact ⟨_, rfl, _, _, _, [], _, [], hW', trodAll_mk1 (shut_bool Yba.underlying4 _), (trodAll_cons_mk (Below.trod laidOut (by kernel_rfl) (of_decide_eq_true (by kernel_rfl)) k0 bel lt0) (trodAll_cons_mk (Below.trod laidOut (by kernel_rfl) (of_decide_eq_true (by kernel_rfl)) k1 bel lt1) (trodAll_cons_mk (Below.trod laidOut (by kernel_rfl) (of_decide_eq_true (by kernel_rfl)) k2 bel lt2) (trodAll_cons_mk (shut_bool Yba.underlying4 _) (trodAll_cons_mk (shut_int Yba.underlying24 w4) (trodAll_cons_mk (shut_bool Yba.underlying4 _) trodAll_mk0)))))), rfl, bel.frame _, fun h => by cases h⟩

theorem over : Rows.lawS5786APartRow.holds Yba.pinned (OpenSpec.ofChange Rows.lawS5786APartSpec) :=
  OpenClaim.holds_of_wide 3 Yba.f3 rfl rfl rfl rfl rfl rfl rfl ⟨rfl, rfl, rfl, rfl, rfl⟩ rfl rfl rfl rfl rfl (by kernel_rfl) Yba.func3 (by kernel_rfl)
    (of_decide_eq_true (by kernel_rfl)) (by unfold Func.isWrapper; first | (rw [if_pos (by decide +kernel)]; kernel_rfl) | (rw [if_neg (by decide +kernel)]; exact ⟨rfl, rfl⟩))
    (fun os started H enc _ => lifted os started H enc)

/-- The statement. -/
theorem lawS5786APart_proved : Rows.LawS5786APartSaid := over
#print axioms lawS5786APart_proved
end Go.Proofs.Ybulkdouo
