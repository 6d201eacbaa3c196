import Derived.Test.YbulkdouoDel
namespace Go.Proofs.Ybulkdouo
open Go.RowKit

theorem Yba.info114 : (Yba.prog.info? 114).map (fun i => (i.zero, i.size, i.bytes)) = some (some (.agg #[.int .i64 0, .int .u64 0, .int .u64 0, .slice none 0 0, .slice none 0 0, .int .u64 0, .bool false]), 7, 88) := by kernel_rfl
theorem Yba.info24 : (Yba.prog.info? 24).map (fun i => (i.zero, i.size, i.bytes)) = some (some (.int .u64 0), 1, 8) := by kernel_rfl

/-- The seven cells of message j of a row that the call owns. -/
theorem row_cells {w : World} {base g n cap : Nat} {ms : List Msg} (h : w.ownsRow base 114 7 (.slice (some ⟨g, 0, none⟩) n cap) n (ms.flatMap mcells)) (j : Nat) (m : Msg) (hj : ms[j]? = some m) (hn : ms.length = n) :
    w.cell? ⟨g, j * 7, none⟩ = some (.int .i64 m.s) ∧ w.cell? ⟨g, j * 7 + 1, none⟩ = some (.int .u64 m.inc) ∧ w.cell? ⟨g, j * 7 + 2, none⟩ = some (.int .u64 m.seq) ∧ w.cell? ⟨g, j * 7 + 3, none⟩ = some (.slice m.pa m.pl m.pc) ∧
    w.cell? ⟨g, j * 7 + 4, none⟩ = some (.slice none 0 0) ∧ w.cell? ⟨g, j * 7 + 5, none⟩ = some (.int .u64 m.arr) ∧ w.cell? ⟨g, j * 7 + 6, none⟩ = some (.bool m.nb) := by
  have hlt : j < n := by rw [← hn]; exact (List.getElem?_eq_some_iff.1 hj).1
  have key : ∀ i, i < 7 → w.cell? ⟨g, j * 7 + i, none⟩ = (mcells m)[i]? := fun i hi => by
    rw [h.cellAt (j * 7 + i) (by omega), flat_get ms j i m hj hi]
  exact ⟨key 0 (by omega), key 1 (by omega), key 2 (by omega), key 3 (by omega), key 4 (by omega), key 5 (by omega), key 6 (by omega)⟩

theorem one_mcells (ms : List Msg) : ∀ u ∈ ms.flatMap mcells, u.oneCell' = true := by
  intro u hu
  rw [List.mem_flatMap] at hu
  obtain ⟨m, _, hm⟩ := hu
  simp only [mcells, List.mem_cons, List.not_mem_nil, or_false] at hm
  rcases hm with rfl | rfl | rfl | rfl | rfl | rfl | rfl <;> rfl

/-- What holds of the second loop's world behind j rounds: held is done, until has j numbers more. -/
structure DRel (w : World) (bo gh gu nu N base gH cH : Nat) (m r bv : Value) (due : Bool) (num u : Int) (hs' us : List Value) (j : Nat) (gu' cu' : Nat) (wr : World) : Prop where
  o : OAt wr bo m r due (.slice (some ⟨gH, 0, none⟩) N cH) (.slice (some ⟨gu', 0, none⟩) (nu + j) cu') bv num
  held : wr.ownsRow base 114 7 (.slice (some ⟨gH, 0, none⟩) N cH) N hs'
  til : wr.ownsRow base 24 1 (.slice (some ⟨gu', 0, none⟩) (nu + j) cu') (nu + j) (us ++ List.replicate j (.int .u64 u))
  ne : gH ≠ gu'
  lie : gu' = gu ∨ w.heap.size ≤ gu'
  keep : Keeps (fun b => b = bo ∨ b = gh ∨ b = gu) w wr

theorem DRel.next {w : World} {bo gh gu nu N base gH cH : Nat} {m r bv : Value} {due : Bool} {num u : Int} {hs' us : List Value} {j gu' cu' : Nat} {wr : World}
    (h : DRel w bo gh gu nu N base gH cH m r bv due num u hs' us j gu' cu' wr) (hbo : bo < base) {o : Obj} {g1 c1 : Nat} {w1 : World}
    (hown : w1.ownsRow base 24 1 (.slice (some ⟨g1, 0, none⟩) (nu + j + 1) c1) (nu + j + 1) (us ++ List.replicate j (.int .u64 u) ++ [.int .u64 u]))
    (hg : (wr.alloc o).grownBy w1 (some gu')) (hor : gu' = g1 ∨ g1 = wr.heap.size + 1) :
    DRel w bo gh gu nu N base gH cH m r bv due num u hs' us (j + 1) g1 c1 (w1.setCell ⟨bo, 12, none⟩ (.slice (some ⟨g1, 0, none⟩) (nu + j + 1) c1)) := by
  have hb1 := (h.held.lt gH rfl)
  have hb2 := (h.til.lt gu' rfl)
  have kg : Keeps (fun b => b = gu') wr w1 := ((Keeps.refl _ wr).alloc o).grown hg (fun k _ e => by simpa using e.symm)
  have k2 : Keeps (fun b => b = bo ∨ b = gu') wr (w1.setCell ⟨bo, 12, none⟩ (.slice (some ⟨g1, 0, none⟩) (nu + j + 1) c1)) := (kg.mono (fun i _ e => .inr e)).setCell _ (fun _ => .inl rfl) _
  refine ⟨?_, ?_, ?_, ?_, ?_, ?_⟩
  · exact (h.o.keep kg (by omega)).set12 _
  · exact k2.owns h.held (fun k hk => by
      simp [Value.ownBlock] at hk
      subst hk
      have := h.ne
      omega)
  · have e : us ++ List.replicate (j + 1) (Value.int .u64 u) = us ++ List.replicate j (.int .u64 u) ++ [.int .u64 u] := by simp [List.replicate_succ', List.append_assoc]
    rw [e]
    exact ownsRow_setCell_below hown (by exact hbo) _
  · have := h.ne
    omega
  · have := h.keep.size
    rcases h.lie with hl | hl <;> rcases hor with ho | ho <;> omega
  · refine h.keep.step k2 (fun i hi hi2 => ?_)
    rcases hi2 with e | e
    · exact .inl e
    · rcases h.lie with hl | hl
      · exact .inr (.inr (by omega))
      · omega

theorem DRel.start {w wr w1 : World} {bo gh gu nu N n base ch cu g cap nq : Nat} {m r bv : Value} {due : Bool} {num u : Int} {hs hs' us : List Value}
    (kb : Keeps (fun b => b = bo ∨ b = gh ∨ b = gu) w wr) (hO : OAt wr bo m r due (.slice (some ⟨gh, 0, none⟩) n ch) (.slice (some ⟨gu, 0, none⟩) nu cu) bv num)
    (hH : wr.ownsRow base 114 7 (.slice (some ⟨gh, 0, none⟩) n ch) n hs) (hU : wr.ownsRow base 24 1 (.slice (some ⟨gu, 0, none⟩) nu cu) nu us) (hbo : bo < base) (hgu : gh ≠ gu)
    (hown : w1.ownsRow base 114 7 (.slice (some ⟨g, 0, none⟩) N cap) N hs') (hg : (wr.drewN nq).grownBy w1 (some gh)) (hor : some gh = some g ∨ g = wr.heap.size) :
    DRel w bo gh gu nu N base g cap m r bv due num u hs' us 0 gu cu (w1.setCell ⟨bo, 11, none⟩ (.slice (some ⟨g, 0, none⟩) N cap)) := by
  have hb1 := (hH.lt gh rfl)
  have hb2 := (hU.lt gu rfl)
  have kg : Keeps (fun b => b = gh) wr w1 := ((Keeps.refl _ wr).drewN nq).grown hg (fun k _ e => by simpa using e.symm)
  have k2 : Keeps (fun b => b = bo ∨ b = gh) wr (w1.setCell ⟨bo, 11, none⟩ (.slice (some ⟨g, 0, none⟩) N cap)) := (kg.mono (fun i _ e => .inr e)).setCell _ (fun _ => .inl rfl) _
  refine ⟨(hO.keep kg (by omega)).set11 _, ownsRow_setCell_below hown (by exact hbo) _, ?_, ?_, .inl rfl, kb.step k2 (fun i _ e => by rcases e with e | e <;> simp [e])⟩
  · simp only [List.replicate_zero, List.append_nil, Nat.add_zero]
    exact k2.owns hU (fun k hk => by simp [Value.ownBlock] at hk; subst hk; omega)
  · simp only [Option.some.injEq] at hor
    omega

theorem OAt.grown {w w1 : World} {bo gh : Nat} {m r : Value} {due : Bool} {hv uv bv : Value} {num : Int} (h : OAt w bo m r due hv uv bv num) (hg : w.grownBy w1 (some gh)) (hne : bo ≠ gh) : OAt w1 bo m r due hv uv bv num :=
  (hg.block bo h.lt (by simpa using hne)).trans h

set_option maxHeartbeats 1000000 in
theorem deliver_some (bo bm bs gh ch gu cu gi ci n nu base : Nat) (due : Bool) (ba : Option Addr) (bl bc : Nat) (num u : Int) (hs us : List Value) (ms : List Msg) (w : World)
    (hO : OAt w bo (.pointer (some ⟨bm, 0, none⟩)) (.pointer (some ⟨bs, 0, none⟩)) due (.slice (some ⟨gh, 0, none⟩) n ch) (.slice (some ⟨gu, 0, none⟩) nu cu) (.slice ba bl bc) num)
    (hM0 : w.cell? ⟨bm, 0, none⟩ = some (.int .i64 1)) (hM23 : w.cell? ⟨bm, 23, none⟩ = some (.slice none 0 0))
    (hS : w.cell? ⟨bs, 11, none⟩ = some (.slice none 0 0)) (hSf : w.frozen? ⟨bs, 11, none⟩ = false)
    (hH : w.ownsRow base 114 7 (.slice (some ⟨gh, 0, none⟩) n ch) n hs) (hU : w.ownsRow base 24 1 (.slice (some ⟨gu, 0, none⟩) nu cu) nu us)
    (hI : w.ownsRow base 114 7 (.slice (some ⟨gi, 0, none⟩) ms.length ci) ms.length (ms.flatMap mcells))
    (hk : 0 < ms.length) (hsend : ∀ m ∈ ms, m.s = 0 ∨ m.s = 1) (hn : n + nu + ms.length ≤ 1048576) (hbo : bo < base) (hgu : gh ≠ gu) (_hgi : gi ≠ gh ∧ gi ≠ gu)
    (hu : (ba.isSome = false ∧ u = num) ∨ (ba.isSome = true ∧ u = 18446744073709551615)) :
    Calls Yba.prog 5 #[.pointer (some ⟨bo, 0, none⟩), .slice (some ⟨gi, 0, none⟩) ms.length ci] w fun e w' => e = .returned (.tuple #[]) ∧
      ∃ gH cH gu' cu', DRel w bo gh gu nu (n + ms.length) base gH cH (.pointer (some ⟨bm, 0, none⟩)) (.pointer (some ⟨bs, 0, none⟩)) (.slice ba bl bc) due num u (hs ++ ms.flatMap mcells) us ms.length gu' cu' w' := by
  have hne : ((ms.length : Int) == 0) = false := beq_eq_false_iff_ne.2 (by omega)
  have c0 := hO.c0
  have c10 := hO.c10
  have f10 := hO.free 10
  have lo := hO.lt
  go_enter Yba.func5, Yba.ntmps5
  go_wp2
  go_loopw [12] (fun i wr => ∃ j : Nat, j ≤ ms.length ∧ i = .int .i64 j ∧ Below w.heap.size w wr) (fun i _ => ms.length - (intOf i).toNat)
  case atStart => exact ⟨0, Nat.zero_le _, rfl, Below.refl _ _⟩
  case round =>
    obtain ⟨j, hj, rfl, hbel⟩ := hrel
    by_cases hlt : j < ms.length
    · obtain ⟨m, hm⟩ : ∃ m, ms[j]? = some m := ⟨ms[j], by simp [hlt]⟩
      obtain ⟨r0, r1, r2, r3, r4, r5, r6⟩ := row_cells hI j m hm rfl
      have q0 := cell_later hbel r0
      have q1 := cell_later hbel r1
      have q2 := cell_later hbel r2
      have q3 := cell_later hbel r3
      have q4 := cell_later hbel r4
      have q5 := cell_later hbel r5
      have q6 := cell_later hbel r6
      have d10 := cell_later hbel c10
      have e10 : wr.frozen? ⟨bo, 10, none⟩ = false := (hbel.frozen (by exact lo)).trans f10
      have lor : bo < wr.heap.size := Nat.lt_of_lt_of_le lo hbel.size
      clear r0 r1 r2 r3 r4 r5 r6 c10 f10
      have hms : m.s = 0 ∨ m.s = 1 := hsend m (List.mem_of_getElem? hm)
      by_cases hdue : due = true
      · subst hdue
        go_wp2_with fail
        go_roundw
        case rel => exact ⟨j + 1, by omega, by go_num, by rw [setCell_self (by simp [d10])]; exact hbel.alloc hbel.size _⟩
        case measure => simp [intOf]; omega
      · have hd : due = false := by simpa using hdue
        subst hd
        rcases hms with h0 | h1
        · rw [h0] at q0
          go_wp2_with fail
          go_roundw
          case rel => exact ⟨j + 1, by omega, by go_num, by rw [setCell_self (by simp [d10])]; exact hbel.alloc hbel.size _⟩
          case measure => simp [intOf]; omega
        · rw [h1] at q0
          have dd0 := cell_later hbel c0
          have dM0 := cell_later hbel hM0
          have hal : Below wr.heap.size wr (wr.alloc (.cells #[.int .i64 1, .int .u64 m.inc, .int .u64 m.seq, .slice m.pa m.pl m.pc, .slice none 0 0, .int .u64 m.arr, .bool m.nb] 114)) := (Below.refl _ wr).alloc (Nat.le_refl _) _
          go_wp2_with fail
          refine (current_self bo bm _ _ _ _ _ _ _ _ _ _ _ (cell_later hal dd0) (cell_later hal dM0)).mono ?_
          rintro e w1 ⟨rfl, hb1⟩
          have hb2 : Below wr.heap.size wr w1 := hal.trans (hb1.mono (by simp))
          have g10 := cell_later hb2 d10
          have k10 : w1.frozen? ⟨bo, 10, none⟩ = false := (hb2.frozen (by exact lor)).trans e10
          clear hal hb1 q0 q1 q2 q3 q4 q5 q6 d10 e10 dd0 dM0 hO hI hH hU
          go_wp2_with fail
          go_roundw
          case rel => exact ⟨j + 1, by omega, by go_num, by rw [setCell_self (by simp [g10])]; exact hbel.trans (hb2.mono hbel.size)⟩
          case measure => simp [intOf]; omega
    · have c1 := hO.c1
      have t1 := cell_later hbel c1
      have t0 := cell_later hbel c0
      have tS := cell_later hbel hS
      have tSf : wr.frozen? ⟨bs, 11, none⟩ = false := (hbel.frozen (by exact World.block_lt_of_cell? _ _ hS)).trans hSf
      have tM := cell_later hbel hM23
      have t17 := cell_later hbel hO.c17
      have t19 := cell_later hbel hO.c19
      have t11 := cell_later hbel hO.c11
      have hneq := fun w => run_neq_slice_nil_any (P := Yba.prog) w 98 5 ba bl bc 0 0 Yba.underlying98
      have kb : Keeps (fun b => b = bo ∨ b = gh ∨ b = gu) w wr := Keeps.of_below hbel
      have hOr : OAt wr bo (.pointer (some ⟨bm, 0, none⟩)) (.pointer (some ⟨bs, 0, none⟩)) due (.slice (some ⟨gh, 0, none⟩) n ch) (.slice (some ⟨gu, 0, none⟩) nu cu) (.slice ba bl bc) num := hO.keep (Keeps.of_below (S := fun _ => False) hbel) (fun h => h)
      have hHr := (Keeps.of_below (S := fun _ => False) hbel).owns hH (fun _ _ h => h)
      have hUr := (Keeps.of_below (S := fun _ => False) hbel).owns hU (fun _ _ h => h)
      have hIr := (Keeps.of_below (S := fun _ => False) hbel).owns hI (fun _ _ h => h)
      have hsz : w.heap.size ≤ wr.heap.size := hbel.size
      clear hO hH hU hI c0 c1 c10 f10 hM0 hM23 hS hSf hne hbel
      go_wp2_with fail
      go_quiet (first | (go_at_call 9; exact Calls.quiet_of_same (progressed_none bm _ (by simpa using tM))) | (go_at_call 8; exact Calls.quiet_of_same (forget_none bs _ _ (by simpa using tS) (by simpa using tSf))))
      clear tM tS tSf t0 t1
      obtain ⟨i0, hi, hz0, hz1, hz2⟩ := info_parts Yba.info114
      have hbase : base ≤ wr.heap.size := by have := hHr.lt gh rfl; omega
      have hbgh : bo ≠ gh := by have := hHr.lt gh rfl; omega
      rcases hu with ⟨hb, rfl⟩ | ⟨hb, rfl⟩
      · go_wp2_with (at_builtin; refine wpList_append_lies _ rfl (.tmp 61) (.tmp 62) 95 rfl base 114 i0 _ 7 88 Yba.underlying95 hi hz0 hz1 hz2 rfl (by decide) _ n hs rfl (show (wr.drewN _).ownsRow _ _ _ _ _ _ from hHr) ⟨gi, 0, none⟩ ms.length ci (ms.flatMap mcells) rfl (length_flat ms) (by exact hIr.cells rfl) (one_mcells ms) hk (by unfold maxLen; omega) (by omega) (by exact hbase) wr.heap.size rfl ?_; intro g cap w1 hown hgrow hor hglt; have R := DRel.start (u := u) kb hOr hHr hUr hbo hgu hown hgrow hor; have o1 := OAt.grown (w := wr.drewN nq) hOr hgrow hbgh; have s11 := o1.c11; have f11 := o1.free 11; clear o1 hown hgrow hor hglt)
        clear t17 t11 kb hHr hUr hIr hsz hbase hbgh t19 hOr s11 f11 hi hz0 hz1 hz2
        obtain ⟨i1, hi1, hy0, hy1, hy2⟩ := info_parts Yba.info24
        go_loopw [68] (fun i wr => ∃ j : Nat, j ≤ ms.length ∧ i = .int .i64 j ∧ ∃ gu' cu', DRel w bo gh gu nu (n + ms.length) base g cap (.pointer (some ⟨bm, 0, none⟩)) (.pointer (some ⟨bs, 0, none⟩)) (.slice ba bl bc) due u u (hs ++ ms.flatMap mcells) us j gu' cu' wr) (fun i _ => ms.length - (intOf i).toNat)
        case atStart => exact ⟨0, Nat.zero_le _, rfl, gu, cu, R⟩
        case round =>
          obtain ⟨j2, hj2, rfl, gu', cu', D⟩ := hrel
          clear R
          by_cases hlt2 : j2 < ms.length
          · have c12 := D.o.c12
            have f12 := D.o.free 12
            have lo2 := D.o.lt
            have hl2 := D.til.lt gu' rfl
            have hbg : bo ≠ gu' := by omega
            go_wp2_with (at_builtin; refine wpList_append_lies _ rfl (.tmp 74) (.tmp 76) 23 rfl base 24 i1 _ 1 8 Yba.underlying23 hi1 hy0 hy1 hy2 rfl (by decide) (.slice (some ⟨gu', 0, none⟩) (nu + j2) cu') (nu + j2) _ (by rfl) (D.til.alloc _) ⟨wr.heap.size, 0, none⟩ 1 1 [.int .u64 u] rfl rfl (cell_one_new _ _ _) (by simp [Value.oneCell']) (by decide) (by unfold maxLen; omega) (by omega) (by simp; omega) (wr.heap.size + 1) (by simp) ?_; intro g1 c1 w1 hown hgrow hor hglt; have R2 := D.next hbo hown hgrow (by simpa [Value.ownBlock] using hor); have o1 := OAt.grown (D.o.keep (Keeps.of_below (S := fun _ => False) ((Below.refl _ wr).alloc (Nat.le_refl _) _)) (fun h => h)) hgrow hbg; have s12 := o1.c12; have e12 := o1.free 12; clear o1 hown hgrow hor hglt)
            go_roundw
            case rel => exact ⟨j2 + 1, by omega, by go_num, g1, c1, R2⟩
            case measure => simp [intOf]; omega
          · go_wp2_with fail
            go_end0
            have ej : j2 = ms.length := by omega
            subst ej
            exact ⟨rfl, g, cap, gu', cu', D⟩
      · go_wp2_with (at_builtin; refine wpList_append_lies _ rfl (.tmp 61) (.tmp 62) 95 rfl base 114 i0 _ 7 88 Yba.underlying95 hi hz0 hz1 hz2 rfl (by decide) _ n hs rfl (show (wr.drewN _).ownsRow _ _ _ _ _ _ from hHr) ⟨gi, 0, none⟩ ms.length ci (ms.flatMap mcells) rfl (length_flat ms) (by exact hIr.cells rfl) (one_mcells ms) hk (by unfold maxLen; omega) (by omega) (by exact hbase) wr.heap.size rfl ?_; intro g cap w1 hown hgrow hor hglt; have R := DRel.start (u := 18446744073709551615) kb hOr hHr hUr hbo hgu hown hgrow hor; have o1 := OAt.grown (w := wr.drewN nq) hOr hgrow hbgh; have s11 := o1.c11; have f11 := o1.free 11; clear o1 hown hgrow hor hglt)
        clear t17 t11 kb hHr hUr hIr hsz hbase hbgh t19 hOr s11 f11 hi hz0 hz1 hz2
        obtain ⟨i1, hi1, hy0, hy1, hy2⟩ := info_parts Yba.info24
        go_loopw [68] (fun i wr => ∃ j : Nat, j ≤ ms.length ∧ i = .int .i64 j ∧ ∃ gu' cu', DRel w bo gh gu nu (n + ms.length) base g cap (.pointer (some ⟨bm, 0, none⟩)) (.pointer (some ⟨bs, 0, none⟩)) (.slice ba bl bc) due num 18446744073709551615 (hs ++ ms.flatMap mcells) us j gu' cu' wr) (fun i _ => ms.length - (intOf i).toNat)
        case atStart => exact ⟨0, Nat.zero_le _, rfl, gu, cu, R⟩
        case round =>
          obtain ⟨j2, hj2, rfl, gu', cu', D⟩ := hrel
          clear R
          by_cases hlt2 : j2 < ms.length
          · have c12 := D.o.c12
            have f12 := D.o.free 12
            have lo2 := D.o.lt
            have hl2 := D.til.lt gu' rfl
            have hbg : bo ≠ gu' := by omega
            go_wp2_with (at_builtin; refine wpList_append_lies _ rfl (.tmp 74) (.tmp 76) 23 rfl base 24 i1 _ 1 8 Yba.underlying23 hi1 hy0 hy1 hy2 rfl (by decide) (.slice (some ⟨gu', 0, none⟩) (nu + j2) cu') (nu + j2) _ (by rfl) (D.til.alloc _) ⟨wr.heap.size, 0, none⟩ 1 1 [.int .u64 18446744073709551615] rfl rfl (cell_one_new _ _ _) (by simp [Value.oneCell']) (by decide) (by unfold maxLen; omega) (by omega) (by simp; omega) (wr.heap.size + 1) (by simp) ?_; intro g1 c1 w1 hown hgrow hor hglt; have R2 := D.next hbo hown hgrow (by simpa [Value.ownBlock] using hor); have o1 := OAt.grown (D.o.keep (Keeps.of_below (S := fun _ => False) ((Below.refl _ wr).alloc (Nat.le_refl _) _)) (fun h => h)) hgrow hbg; have s12 := o1.c12; have e12 := o1.free 12; clear o1 hown hgrow hor hglt)
            go_roundw
            case rel => exact ⟨j2 + 1, by omega, by go_num, g1, c1, R2⟩
            case measure => simp [intOf]; omega
          · go_wp2_with fail
            go_end0
            have ej : j2 = ms.length := by omega
            subst ej
            exact ⟨rfl, g, cap, gu', cu', D⟩
end Go.Proofs.Ybulkdouo
