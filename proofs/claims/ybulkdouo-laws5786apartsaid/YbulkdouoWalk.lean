import Derived.Test.YbulkdouoMain
namespace Go.Proofs.Ybulkdouo
open Go.RowKit

set_option maxRecDepth 100000 in
set_option maxHeartbeats 8000000 in
theorem main_walk (a0 a1 a2 : Option Addr) (c0 c1 c2 : Nat) (zp zm : List Msg) (us : List Int) (due hb : Bool) (num : Int) (w : World)
    (hP : ZRow w a0 zp) (hM : ZRow w a2 zm) (hU : ∀ i x, us[i]? = some x → ∃ b off, a1 = some ⟨b, off, none⟩ ∧ w.cell? ⟨b, off + i, none⟩ = some (.int .u64 x))
    (hn : zp.length + us.length + zm.length ≤ 1048576) :
    Calls Yba.prog 3 #[.slice a0 zp.length c0, .slice a1 us.length c1, .slice a2 zm.length c2, .bool due, .int .u64 num, .bool hb] w fun e w' => e = .returned (.bool true) ∧ Below w.heap.size w w' := by
  have hz90 := memZ_run
  have hms : memZ.size = 84 := rfl
  have hta : ∀ a w, (Instr.typeAssert (.iface 104 (.pointer (some a))) 20 104 true).run Yba.prog w = .ok (.tuple #[.pointer (some a), .bool true]) w := fun _ _ => by kernel_rfl
  go_enter Yba.func3, Yba.ntmps3
  go_upto_if 57 with fail
  go_cut [15] (fun _ wx => ∃ ba : Option Addr, ba.isSome = hb ∧ Base w due (.slice none 0 0) (.slice none 0 0) (.slice ba 0 0) num wx)
  case first =>
    cases hb
    · go_wp2_with fail
      go_meet
      case rel => exact ⟨none, rfl, base_start w due num _⟩
    · go_wp2_with fail
      go_meet
      case rel => exact ⟨some ⟨w.heap.size + 1 + 1 + 1, 0, none⟩, rfl, (base_start w due num _).keep (((Keeps.refl (fun _ => False) _)).alloc _) (fun _ h => h.elim)⟩
  case rest =>
    clear hz90 hms hta
    obtain ⟨ba, hba, B0⟩ := hcut
    have HB : Hid (ba.isSome = hb) := hba
    clear hba
    obtain ⟨i0, hi, hz0, hz1, hz2⟩ := info_parts Yba.info114
    obtain ⟨i1, hi1, hy0, hy1, hy2⟩ := info_parts Yba.info24
    go_wp2_with (at_make; refine wpList_make_own _ rfl (.const (.int .i64 0)) (.tmp 64) 95 rfl (w.heap.size + 3) 114 i0 _ 7 Yba.underlying95 hi hz0 hz1 .i64 .i64 _ zp.length rfl rfl rfl (by rw [hz2]; omega) (by unfold maxLen; omega) B0.size ?_; intro w1 hown hgrow; have B1 := B0.keep (Keeps.of_none hgrow) (fun _ h => h.elim); clear hgrow)
    clear B0
    go_loopw [16, 17] (fun v i wr => ∃ k : Nat, k ≤ zp.length ∧ i = .int .i64 k ∧ ∃ gh ch, v = .slice (some ⟨gh, 0, none⟩) k ch ∧ wr.ownsRow (w.heap.size + 3) 114 7 (.slice (some ⟨gh, 0, none⟩) k ch) k (((zp.take k).map toMsg).flatMap mcells) ∧ Base w due (.slice none 0 0) (.slice none 0 0) (.slice ba 0 0) num wr) (fun _ i _ => zp.length - (intOf i).toNat)
    case atStart => exact ⟨0, Nat.zero_le _, rfl, _, _, rfl, hown, B1⟩
    case round =>
      obtain ⟨k, hk, rfl, gh, ch, rfl, hown1, B⟩ := hrel
      clear hown B1
      by_cases hlt : k < zp.length
      · obtain ⟨z, hz⟩ : ∃ z, zp[k]? = some z := ⟨zp[k], by simp [hlt]⟩
        obtain ⟨b, off, rfl, r0, r1, r2, r3, r4, r5, hs0, _⟩ := hP k z hz
        have q0 := cell_later B.bel r0
        have q1 := cell_later B.bel r1
        have q2 := cell_later B.bel r2
        have q3 := cell_later B.bel r3
        have q4 := cell_later B.bel r4
        have q5 := cell_later B.bel r5
        have hgl := hown1.lt gh rfl
        clear r0 r1 r2 r3 r4 r5
        go_wp2_with fail
        refine (msg_any _ _ _ _ _ _ _ _ _ hs0).mono ?_
        rintro e w2 ⟨rfl, hb2⟩
        have hown2 := (Keeps.of_below (S := fun _ => False) hb2).owns hown1 (fun _ _ h => h)
        have hsz2 := hb2.size
        go_wp2_with (at_builtin; refine wpList_append_lies _ rfl (.tmp 72) (.tmp 78) 95 rfl (w.heap.size + 3) 114 i0 _ 7 88 Yba.underlying95 hi hz0 hz1 hz2 rfl (by decide) (.slice (some ⟨gh, 0, none⟩) k ch) k _ (by rfl) (hown2.alloc _) ⟨w2.heap.size, 0, none⟩ 1 1 (mcells (toMsg z)) (by rfl) (by rfl) (World.news_of_block (heap_alloc_new w2 _)) (by simpa using one_mcells [toMsg z]) (by decide) (by unfold maxLen; omega) (by omega) (by simp; omega) (w2.heap.size + 1) (by simp) ?_; intro g3 c3 w3 hown3 hgrow3 hor3 hlt3; have B3 := B.grown hb2 hgrow3 hgl.1; clear hgrow3 hor3 hlt3)
        go_roundw
        case rel => exact ⟨k + 1, by omega, by go_num, g3, c3, rfl, by rw [take_msgs zp k z hz]; exact hown3, B3⟩
        case measure => simp [intOf]; omega
      · obtain rfl : k = zp.length := by omega
        rw [List.take_length] at hown1
        have hgl := hown1.lt gh rfl
        have f11 := B.o.free 11
        have s11 := B.o.c11
        have B2 := B.set11 (.slice (some ⟨gh, 0, none⟩) zp.length ch)
        have hown2 := ownsRow_setCell_below hown1 (a := ⟨w.heap.size + 1, 11, none⟩) (by simp) (.slice (some ⟨gh, 0, none⟩) zp.length ch)
        clear hown1 B
        go_wp2_with (first | (at_make; refine wpList_make_full _ rfl (.tmp 85) (.tmp 85) 23 rfl (w.heap.size + 3) 24 i1 _ 1 Yba.underlying23 hi1 hy0 hy1 .i64 .i64 _ _ us.length rfl rfl rfl rfl (by rw [hy2]; omega) (by unfold maxLen; omega) B2.size ?_; intro w3 hU3 hgrow3; simp only [World.size_setCell] at hU3; have B3 := B2.keep (Keeps.of_none hgrow3) (fun _ h => h.elim); have hH3 := (Keeps.of_none hgrow3).owns hown2 (fun _ _ h => h); have hsz3 := hgrow3.size; simp only [World.size_setCell] at hsz3; clear hgrow3 B2 hown2 s11 f11) | (refine wpList_copy_splice rfl (.tmp 87) (.tmp 88) 23 23 rfl 24 Yba.underlying23 (by kernel_rfl) (some ⟨wr.heap.size, 0, none⟩) a1 us.length us.length us.length c1 rfl rfl wr.heap.size 0 _ 24 (row_whole hU3).1 (us.map (Value.int .u64)) (by simp) (until_src hU B3.bel) (by rw [(row_whole hU3).2, List.length_map]; omega) (ints_oneCell _ _) wr.heap.size w3 (Below.refl _ _) (Nat.le_refl _) ?_; intro w4 hrow4 hb4; have hU4 := until_row (N := w.heap.size) hU3 hrow4.out (by omega) (by unfold maxLen; omega); have B4 := B3.keep (Keeps.of_below' hb4) (fun k e => by omega); have hH4 := (Keeps.of_below' hb4).owns hH3 (fun k e h => by simp [Value.ownBlock] at e; omega); have s12 := B4.o.c12; have f12 := B4.o.free 12; have B5 := B4.set12 (.slice (some ⟨wr.heap.size, 0, none⟩) us.length us.length); have hH5 := ownsRow_setCell_below hH4 (a := ⟨w.heap.size + 1, 12, none⟩) (by simp) (.slice (some ⟨wr.heap.size, 0, none⟩) us.length us.length); have hU5 := ownsRow_setCell_below hU4 (a := ⟨w.heap.size + 1, 12, none⟩) (by simp) (.slice (some ⟨wr.heap.size, 0, none⟩) us.length us.length); have hsz4 := hb4.size; have hgu3 := (hU3.lt _ rfl).2; clear hrow4 hb4 hU3 hU4 hH3 hH4 B3 B4) | (at_make; refine wpList_make_full _ rfl (.tmp 95) (.tmp 95) 95 rfl (w.heap.size + 3) 114 i0 _ 7 Yba.underlying95 hi hz0 hz1 .i64 .i64 _ _ zm.length rfl rfl rfl rfl (by rw [hz2]; omega) (by unfold maxLen; omega) B5.size ?_; intro w6 hI6 hgrow6; simp only [World.size_setCell] at hI6; rw [made_msgs] at hI6; have B6 := B5.keep (Keeps.of_none hgrow6) (fun _ h => h.elim); have hH6 := (Keeps.of_none hgrow6).owns hH5 (fun _ _ h => h); have hU6 := (Keeps.of_none hgrow6).owns hU5 (fun _ _ h => h); clear hgrow6 B5 hH5 hU5 s12 f12))
        generalize hgi : w4.heap.size = gi at hI6 hsz4 ⊢
        generalize hgu : wr.heap.size = gu at hU6 B6 hsz3 hgu3 hgl ⊢
        have hgg : gu < gi := by omega
        clear hgi hgu hsz3 hsz4 hgu3 hk hlt
        go_loopw [20] (fun i wr => ∃ k : Nat, k ≤ zm.length ∧ i = .int .i64 k ∧ wr.ownsRow (w.heap.size + 3) 114 7 (.slice (some ⟨gi, 0, none⟩) zm.length zm.length) zm.length ((mixed zm k).flatMap mcells) ∧ wr.ownsRow (w.heap.size + 3) 114 7 (.slice (some ⟨gh, 0, none⟩) zp.length ch) zp.length ((zp.map toMsg).flatMap mcells) ∧ wr.ownsRow (w.heap.size + 3) 24 1 (.slice (some ⟨gu, 0, none⟩) us.length us.length) us.length (us.map (Value.int .u64)) ∧ Base w due (.slice (some ⟨gh, 0, none⟩) zp.length ch) (.slice (some ⟨gu, 0, none⟩) us.length us.length) (.slice ba 0 0) num wr) (fun i _ => zm.length - (intOf i).toNat)
        case atStart => exact ⟨0, Nat.zero_le _, rfl, by rw [mixed_zero]; exact hI6, hH6, hU6, B6⟩
        case round =>
          obtain ⟨k, hk, rfl, hI, hH, hUr, B⟩ := hrel
          clear hI6 hH6 hU6 B6
          by_cases hlt : k < zm.length
          · obtain ⟨z, hz⟩ : ∃ z, zm[k]? = some z := ⟨zm[k], by simp [hlt]⟩
            obtain ⟨b, off, rfl, r0, r1, r2, r3, r4, r5, hs0, _⟩ := hM k z hz
            have q0 := cell_later B.bel r0
            have q1 := cell_later B.bel r1
            have q2 := cell_later B.bel r2
            have q3 := cell_later B.bel r3
            have q4 := cell_later B.bel r4
            have q5 := cell_later B.bel r5
            clear r0 r1 r2 r3 r4 r5
            go_wp2_with fail
            refine (msg_any _ _ _ _ _ _ _ _ _ hs0).mono ?_
            rintro e w2 ⟨rfl, hb2⟩
            have k2 := Keeps.of_below (S := fun _ => False) hb2
            have hI2 := k2.owns hI (fun _ _ h => h)
            have hH2 := k2.owns hH (fun _ _ h => h)
            have hU2 := k2.owns hUr (fun _ _ h => h)
            have B2 := B.keep k2 (fun _ h => h.elim)
            obtain ⟨t0, t1, t2, t3, t4, t5, t6⟩ := row_cells hI2 k msgZ (mixed_get zm k hlt) (length_mixed zm k hk)
            have g0 := hI2.frozenAt (k * 7)
            have g1 := hI2.frozenAt (k * 7 + 1)
            have g2 := hI2.frozenAt (k * 7 + 2)
            have g3 := hI2.frozenAt (k * 7 + 3)
            have g4 := hI2.frozenAt (k * 7 + 4)
            have g5 := hI2.frozenAt (k * 7 + 5)
            have g6 := hI2.frozenAt (k * 7 + 6)
            clear hI hH hUr B q0 q1 q2 q3 q4 q5 k2 hb2
            go_wp2_with fail
            go_roundw
            case rel =>
              obtain ⟨s1, s2⟩ := stored7 k (toMsg z) hI2 (by rw [length_mixed zm k hk]; exact hlt)
              rw [mixed_set zm k z hz] at s1
              exact ⟨k + 1, by omega, by go_num, s1, s2.owns hH2 (fun j e h => by simp [Value.ownBlock] at e; omega), s2.owns hU2 (fun j e h => by simp [Value.ownBlock] at e; omega), B2.keep s2 (fun j h => by omega)⟩
            case measure => simp [intOf]; omega
          · obtain rfl : k = zm.length := by omega
            rw [mixed_all] at hI
            clear hi hz0 hz1 hz2 hi1 hy0 hy1 hy2 hk hlt
            obtain ⟨u, hu⟩ : ∃ u : Int, (ba.isSome = false ∧ u = num) ∨ (ba.isSome = true ∧ u = 18446744073709551615) := by
              cases ba with
              | none => exact ⟨num, .inl ⟨rfl, rfl⟩⟩
              | some x => exact ⟨_, .inr ⟨rfl, rfl⟩⟩
            have HU : Hid ((ba.isSome = false ∧ u = num) ∨ (ba.isSome = true ∧ u = 18446744073709551615)) := hu
            clear hu
            have hmm : zm.length = (zm.map toMsg).length := by simp
            have HM : Hid (zm.length = (zm.map toMsg).length) := hmm
            clear hmm
            have hdel := deliver_any (w.heap.size + 1) w.heap.size (w.heap.size + 1 + 1) gh ch gu us.length gi zm.length zp.length us.length (w.heap.size + 3) due ba 0 0 num u ((zp.map toMsg).flatMap mcells) (us.map (Value.int .u64)) (zm.map toMsg) wr B.o B.m0 B.m23 B.s11 B.sf hH hUr (by rw [← HM.out]; exact hI) (toMsg_send zm (fun i z hz => by obtain ⟨_, _, _, _, _, _, _, _, _, h, _⟩ := hM i z hz; exact h)) (by rw [← HM.out]; omega) (by omega) (by omega) (by omega) HU.out
            rw [← HM.out] at hdel
            have HD : Hid (Calls Yba.prog 5 _ _ _) := hdel
            clear hdel
            go_wp2_with fail
            refine HD.out.mono ?_
            rintro e w7 ⟨rfl, gH, cH, gU, cU, D⟩
            rw [HM.out] at D
            have F := Final.of B hI hgl hgg D
            clear HD D B hI hH hUr HM
            have x10 := F.o.c10
            have x19 := F.o.c19
            have x17 := F.o.c17
            have x11 := F.o.c11
            have x12 := F.o.c12
            have hneq := fun w => run_neq_slice_nil_any (P := Yba.prog) w 98 5 ba 0 0 0 0 Yba.underlying98
            have hba := HB.out
            go_wp2_with fail
            clear x10 x19 x17 x12 hneq hba
            have ho := F.o
            have hh := F.held
            go_loopw [21] (fun i wr => ∃ k : Nat, k ≤ zp.length ∧ i = .int .i64 k ∧ Below w7.heap.size w7 wr) (fun i _ => zp.length - (intOf i).toNat)
            case atStart => exact ⟨0, Nat.zero_le _, rfl, Below.refl _ _⟩
            case round =>
              obtain ⟨k, hk, rfl, hbel⟩ := hrel
              by_cases hlt : k < zp.length
              · obtain ⟨z, hz⟩ : ∃ z, zp[k]? = some z := ⟨zp[k], by simp [hlt]⟩
                obtain ⟨b, off, rfl, r0, r1, r2, r3, r4, r5, hs0, hpay⟩ := hP k z hz
                have bw : Below w.heap.size w wr := F.bel.trans (hbel.mono F.bel.size)
                have q0 := cell_later bw r0
                have q1 := cell_later bw r1
                have q2 := cell_later bw r2
                have q3 := cell_later bw r3
                have q4 := cell_later bw r4
                have q5 := cell_later bw r5
                have qp := hpay.later bw
                obtain ⟨p0, p1, p2, p3, p4, p5, p6⟩ := row_cells hh k (toMsg z) (by rw [List.getElem?_append_left (by simpa using hlt)]; simp [hz]) (by simp)
                have y0 := cell_later hbel p0
                have y1 := cell_later hbel p1
                have y2 := cell_later hbel p2
                have y3 := cell_later hbel p3
                have y4 := cell_later hbel p4
                have y5 := cell_later hbel p5
                have y6 := cell_later hbel p6
                have y11 := cell_later hbel x11
                have e0 : (toMsg z).s = z.s % 2 := rfl
                rw [e0] at y0
                have hki : (0 : Int) ≤ (k : Int) := by omega
                have hkl : (k : Int) < (zp.length : Int) := by omega
                have hkl2 : (k : Int) < ((zp.length + zm.length : Nat) : Int) := by omega
                have hkl3 : (k : Int) < (zp.length : Int) + (zm.length : Int) := by omega
                have hkl4 : k < zp.length + zm.length := by omega
                clear r0 r1 r2 r3 r4 r5 hpay p0 p1 p2 p3 p4 p5 p6 bw e0
                go_wp2_with fail
                go_region_held3 (fun w' => w'.cell? ⟨w.heap.size + 1, 11, none⟩ = some (.slice (some ⟨gH, 0, none⟩) (zp.length + zm.length) cH) ∧ w'.cell? ⟨gH, k * 7, none⟩ = some (.int .i64 (z.s % 2)) ∧ w'.cell? ⟨gH, k * 7 + 1, none⟩ = some (.int .u64 z.inc) ∧ w'.cell? ⟨gH, k * 7 + 2, none⟩ = some (.int .u64 z.seq) ∧ w'.cell? ⟨gH, k * 7 + 3, none⟩ = some (.slice z.pa z.pl z.pc) ∧ w'.cell? ⟨gH, k * 7 + 4, none⟩ = some (.slice none 0 0) ∧ w'.cell? ⟨gH, k * 7 + 5, none⟩ = some (.int .u64 z.arr) ∧ w'.cell? ⟨gH, k * 7 + 6, none⟩ = some (.bool z.nb) ∧ w'.cell? ⟨b, off + k * 6, none⟩ = some (.int .u8 z.s) ∧ w'.cell? ⟨b, off + k * 6 + 1, none⟩ = some (.int .u64 z.inc) ∧ w'.cell? ⟨b, off + k * 6 + 2, none⟩ = some (.int .u64 z.seq) ∧ w'.cell? ⟨b, off + k * 6 + 3, none⟩ = some (.int .u64 z.arr) ∧ w'.cell? ⟨b, off + k * 6 + 4, none⟩ = some (.slice z.pa z.pl z.pc) ∧ w'.cell? ⟨b, off + k * 6 + 5, none⟩ = some (.bool z.nb) ∧ PayOk w' (.slice z.pa z.pl z.pc) ∧ Below w7.heap.size w7 w') ((go_split_ands; refine ⟨?_, ?_, ?_, ?_, ?_, ?_, ?_, ?_, ?_, ?_, ?_, ?_, ?_, ?_, ?_, ?_⟩ <;> first | exact cell_later (Below.drew (Below.refl _ _)) (by assumption) | exact cell_later (by assumption) (by assumption) | exact pay_later (Below.drew (Below.refl _ _)) (by assumption) | exact pay_later (by assumption) (by assumption) | exact below_step (Below.drew (Below.refl _ _)) (by assumption) | exact below_step (by assumption) (by assumption))) (first | (go_at_call 4; refine (msg_any _ _ _ _ _ _ _ _ _ hs0).mono ?_; rintro e w' ⟨rfl, hb⟩) | (go_at_call 6; refine (eq_same _ _ _ _ _ _ _ _ _ ?_).mono ?_; (go_split_ands; assumption); rintro e w' ⟨rfl, hb⟩))
                go_wp2_with fail
                go_roundw
                case rel => exact ⟨k + 1, by omega, by go_num, by go_split_ands; assumption⟩
                case measure => simp [intOf]; omega
              · have hii := F.ins
                go_wp2_with fail
                clear hk hlt
                go_loopw [22] (fun i wr => ∃ k : Nat, k ≤ zm.length ∧ i = .int .i64 k ∧ Below w7.heap.size w7 wr) (fun i _ => zm.length - (intOf i).toNat)
                case atStart => exact ⟨0, Nat.zero_le _, rfl, hbel⟩
                case round =>
                  clear hbel
                  obtain ⟨k, hk, rfl, hbel⟩ := hrel
                  by_cases hlt : k < zm.length
                  · obtain ⟨z, hz⟩ : ∃ z, zm[k]? = some z := ⟨zm[k], by simp [hlt]⟩
                    obtain ⟨b, off, rfl, r0, r1, r2, r3, r4, r5, hs0, hpay⟩ := hM k z hz
                    obtain ⟨p0, p1, p2, p3, p4, p5, p6⟩ := row_cells hh (zp.length + k) (toMsg z) (by rw [List.getElem?_append_right (by simp)]; simp [hz]) (by simp)
                    obtain ⟨i0, i1, i2, i3, i4, i5, i6⟩ := row_cells hii k (toMsg z) (by simp [hz]) (by simp)
                    have e0 : (toMsg z).s = z.s % 2 := rfl
                    rw [e0] at p0 i0
                    have X1 : ∀ w', Below w7.heap.size w7 w' → w'.cell? ⟨w.heap.size + 1, 11, none⟩ = some (.slice (some ⟨gH, 0, none⟩) (zp.length + zm.length) cH) ∧ w'.cell? ⟨gH, (zp.length + k) * 7, none⟩ = some (.int .i64 (z.s % 2)) ∧ w'.cell? ⟨gH, (zp.length + k) * 7 + 1, none⟩ = some (.int .u64 z.inc) ∧ w'.cell? ⟨gH, (zp.length + k) * 7 + 2, none⟩ = some (.int .u64 z.seq) ∧ w'.cell? ⟨gH, (zp.length + k) * 7 + 3, none⟩ = some (.slice z.pa z.pl z.pc) ∧ w'.cell? ⟨gH, (zp.length + k) * 7 + 4, none⟩ = some (.slice none 0 0) ∧ w'.cell? ⟨gH, (zp.length + k) * 7 + 5, none⟩ = some (.int .u64 z.arr) ∧ w'.cell? ⟨gH, (zp.length + k) * 7 + 6, none⟩ = some (.bool z.nb) ∧ w'.cell? ⟨b, off + k * 6, none⟩ = some (.int .u8 z.s) ∧ w'.cell? ⟨b, off + k * 6 + 1, none⟩ = some (.int .u64 z.inc) ∧ w'.cell? ⟨b, off + k * 6 + 2, none⟩ = some (.int .u64 z.seq) ∧ w'.cell? ⟨b, off + k * 6 + 3, none⟩ = some (.int .u64 z.arr) ∧ w'.cell? ⟨b, off + k * 6 + 4, none⟩ = some (.slice z.pa z.pl z.pc) ∧ w'.cell? ⟨b, off + k * 6 + 5, none⟩ = some (.bool z.nb) ∧ PayOk w' (.slice z.pa z.pl z.pc) ∧ Below w7.heap.size w7 w' := fun w' hb => by
                      have bw : Below w.heap.size w w' := F.bel.trans (hb.mono F.bel.size)
                      exact ⟨cell_later hb x11, cell_later hb p0, cell_later hb p1, cell_later hb p2, cell_later hb p3, cell_later hb p4, cell_later hb p5, cell_later hb p6, cell_later bw r0, cell_later bw r1, cell_later bw r2, cell_later bw r3, cell_later bw r4, cell_later bw r5, hpay.later bw, hb⟩
                    have X2 : ∀ w', Below w7.heap.size w7 w' → w'.cell? ⟨gi, k * 7, none⟩ = some (.int .i64 (z.s % 2)) ∧ w'.cell? ⟨gi, k * 7 + 1, none⟩ = some (.int .u64 z.inc) ∧ w'.cell? ⟨gi, k * 7 + 2, none⟩ = some (.int .u64 z.seq) ∧ w'.cell? ⟨gi, k * 7 + 3, none⟩ = some (.slice z.pa z.pl z.pc) ∧ w'.cell? ⟨gi, k * 7 + 4, none⟩ = some (.slice none 0 0) ∧ w'.cell? ⟨gi, k * 7 + 5, none⟩ = some (.int .u64 z.arr) ∧ w'.cell? ⟨gi, k * 7 + 6, none⟩ = some (.bool z.nb) ∧ w'.cell? ⟨b, off + k * 6, none⟩ = some (.int .u8 z.s) ∧ w'.cell? ⟨b, off + k * 6 + 1, none⟩ = some (.int .u64 z.inc) ∧ w'.cell? ⟨b, off + k * 6 + 2, none⟩ = some (.int .u64 z.seq) ∧ w'.cell? ⟨b, off + k * 6 + 3, none⟩ = some (.int .u64 z.arr) ∧ w'.cell? ⟨b, off + k * 6 + 4, none⟩ = some (.slice z.pa z.pl z.pc) ∧ w'.cell? ⟨b, off + k * 6 + 5, none⟩ = some (.bool z.nb) ∧ PayOk w' (.slice z.pa z.pl z.pc) ∧ Below w7.heap.size w7 w' := fun w' hb => by
                      have bw : Below w.heap.size w w' := F.bel.trans (hb.mono F.bel.size)
                      exact ⟨cell_later hb i0, cell_later hb i1, cell_later hb i2, cell_later hb i3, cell_later hb i4, cell_later hb i5, cell_later hb i6, cell_later bw r0, cell_later bw r1, cell_later bw r2, cell_later bw r3, cell_later bw r4, cell_later bw r5, hpay.later bw, hb⟩
                    have HX1 := hideIt X1
                    have HX2 := hideIt X2
                    have hki : (0 : Int) ≤ (k : Int) := by omega
                    have hkl : (k : Int) < (zm.length : Int) := by omega
                    have hks : (0 : Int) ≤ (zp.length : Int) + (k : Int) := by omega
                    have hkw : IntKind.i64.wrap ((zp.length : Int) + (k : Int)) = (zp.length : Int) + (k : Int) := by rw [IntKind.wrap_i64]; omega
                    have hkl2 : (zp.length : Int) + (k : Int) < ((zp.length + zm.length : Nat) : Int) := by omega
                    have hkl3 : (zp.length : Int) + (k : Int) < (zp.length : Int) + (zm.length : Int) := by omega
                    have hkl4 : zp.length + k < zp.length + zm.length := by omega
                    have hkt : ((zp.length : Int) + (k : Int)).toNat = zp.length + k := by omega
                    clear r0 r1 r2 r3 r4 r5 hpay p0 p1 p2 p3 p4 p5 p6 i0 i1 i2 i3 i4 i5 i6 e0 X1 X2
                    go_wp2_with fail
                    go_region_held3 (fun w' => w'.cell? ⟨w.heap.size + 1, 11, none⟩ = some (.slice (some ⟨gH, 0, none⟩) (zp.length + zm.length) cH) ∧ w'.cell? ⟨gH, (zp.length + k) * 7, none⟩ = some (.int .i64 (z.s % 2)) ∧ w'.cell? ⟨gH, (zp.length + k) * 7 + 1, none⟩ = some (.int .u64 z.inc) ∧ w'.cell? ⟨gH, (zp.length + k) * 7 + 2, none⟩ = some (.int .u64 z.seq) ∧ w'.cell? ⟨gH, (zp.length + k) * 7 + 3, none⟩ = some (.slice z.pa z.pl z.pc) ∧ w'.cell? ⟨gH, (zp.length + k) * 7 + 4, none⟩ = some (.slice none 0 0) ∧ w'.cell? ⟨gH, (zp.length + k) * 7 + 5, none⟩ = some (.int .u64 z.arr) ∧ w'.cell? ⟨gH, (zp.length + k) * 7 + 6, none⟩ = some (.bool z.nb) ∧ w'.cell? ⟨b, off + k * 6, none⟩ = some (.int .u8 z.s) ∧ w'.cell? ⟨b, off + k * 6 + 1, none⟩ = some (.int .u64 z.inc) ∧ w'.cell? ⟨b, off + k * 6 + 2, none⟩ = some (.int .u64 z.seq) ∧ w'.cell? ⟨b, off + k * 6 + 3, none⟩ = some (.int .u64 z.arr) ∧ w'.cell? ⟨b, off + k * 6 + 4, none⟩ = some (.slice z.pa z.pl z.pc) ∧ w'.cell? ⟨b, off + k * 6 + 5, none⟩ = some (.bool z.nb) ∧ PayOk w' (.slice z.pa z.pl z.pc) ∧ Below w7.heap.size w7 w') ((go_split_ands; refine HX1.out _ ?_; first | exact below_step (Below.drew (Below.refl _ _)) (by assumption) | exact below_step (by assumption) (by assumption))) (first | (go_at_call 4; refine (msg_any _ _ _ _ _ _ _ _ _ hs0).mono ?_; rintro e w' ⟨rfl, hb⟩) | (go_at_call 6; refine (eq_same _ _ _ _ _ _ _ _ _ ?_).mono ?_; (go_split_ands; assumption); rintro e w' ⟨rfl, hb⟩))
                    go_wp2_with fail
                    go_split_ands
                    go_region_held3 (fun w' => w'.cell? ⟨gi, k * 7, none⟩ = some (.int .i64 (z.s % 2)) ∧ w'.cell? ⟨gi, k * 7 + 1, none⟩ = some (.int .u64 z.inc) ∧ w'.cell? ⟨gi, k * 7 + 2, none⟩ = some (.int .u64 z.seq) ∧ w'.cell? ⟨gi, k * 7 + 3, none⟩ = some (.slice z.pa z.pl z.pc) ∧ w'.cell? ⟨gi, k * 7 + 4, none⟩ = some (.slice none 0 0) ∧ w'.cell? ⟨gi, k * 7 + 5, none⟩ = some (.int .u64 z.arr) ∧ w'.cell? ⟨gi, k * 7 + 6, none⟩ = some (.bool z.nb) ∧ w'.cell? ⟨b, off + k * 6, none⟩ = some (.int .u8 z.s) ∧ w'.cell? ⟨b, off + k * 6 + 1, none⟩ = some (.int .u64 z.inc) ∧ w'.cell? ⟨b, off + k * 6 + 2, none⟩ = some (.int .u64 z.seq) ∧ w'.cell? ⟨b, off + k * 6 + 3, none⟩ = some (.int .u64 z.arr) ∧ w'.cell? ⟨b, off + k * 6 + 4, none⟩ = some (.slice z.pa z.pl z.pc) ∧ w'.cell? ⟨b, off + k * 6 + 5, none⟩ = some (.bool z.nb) ∧ PayOk w' (.slice z.pa z.pl z.pc) ∧ Below w7.heap.size w7 w') ((go_split_ands; refine HX2.out _ ?_; first | exact below_step (Below.drew (Below.refl _ _)) (by assumption) | exact below_step (by assumption) (by assumption))) (first | (go_at_call 4; refine (msg_any _ _ _ _ _ _ _ _ _ hs0).mono ?_; rintro e w' ⟨rfl, hb⟩) | (go_at_call 6; refine (eq_same _ _ _ _ _ _ _ _ _ ?_).mono ?_; (go_split_ands; assumption); rintro e w' ⟨rfl, hb⟩))
                    go_wp2_with fail
                    go_roundw
                    case rel => exact ⟨k + 1, by omega, by go_num, by go_split_ands; assumption⟩
                    case measure => simp [intOf]; omega
                  · have htt := F.til
                    have x12 := F.o.c12
                    go_wp2_with fail
                    clear hk hlt
                    go_loopw [23] (fun i wr => ∃ k : Nat, k ≤ us.length ∧ i = .int .i64 k ∧ Below w7.heap.size w7 wr) (fun i _ => us.length - (intOf i).toNat)
                    case atStart => exact ⟨0, Nat.zero_le _, rfl, hbel⟩
                    case round =>
                      clear hbel
                      obtain ⟨k, hk, rfl, hbel⟩ := hrel
                      by_cases hlt : k < us.length
                      · obtain ⟨x, hx⟩ : ∃ x, us[k]? = some x := ⟨us[k], by simp [hlt]⟩
                        obtain ⟨b, off, rfl, r0⟩ := hU k x hx
                        have bw : Below w.heap.size w wr := F.bel.trans (hbel.mono F.bel.size)
                        have q0 := cell_later bw r0
                        have ht := row_u64 htt k x (until_get1 us _ k x hx) (by omega)
                        have y := cell_later hbel ht
                        have y12 := cell_later hbel x12
                        have hki : (0 : Int) ≤ (k : Int) := by omega
                        have hkl : (k : Int) < (us.length : Int) := by omega
                        have hkl2 : (k : Int) < ((us.length + zm.length : Nat) : Int) := by omega
                        have hkl3 : (k : Int) < (us.length : Int) + (zm.length : Int) := by omega
                        clear r0 ht bw hx
                        go_wp2_with fail
                        go_quiet (fail)
                        go_wp2_with fail
                        go_roundw
                        case rel => exact ⟨k + 1, by omega, by go_num, below_drewN hbel _⟩
                        case measure => simp [intOf]; omega
                      · rcases HU.out with ⟨h1, h2⟩ | ⟨h1, h2⟩
                        · obtain rfl : hb = false := by rw [← HB.out]; exact h1
                          subst h2
                          clear h1 HB HU
                          go_wp2_with fail
                          go_loopw [25] (fun i wr => ∃ k : Nat, k ≤ zm.length ∧ i = .int .i64 k ∧ Below w7.heap.size w7 wr) (fun i _ => zm.length - (intOf i).toNat)
                          case atStart => exact ⟨0, Nat.zero_le _, rfl, hbel⟩
                          case round =>
                            clear hbel
                            obtain ⟨k, hk, rfl, hbel⟩ := hrel
                            by_cases hlt : k < zm.length
                            · have ht := row_u64 htt (us.length + k) u (until_get2 us zm.length k u hlt) (by omega)
                              have y := cell_later hbel ht
                              have y12 := cell_later hbel x12
                              clear ht
                              go_wp2_with fail
                              go_roundw
                              case rel => exact ⟨k + 1, by omega, by go_num, hbel⟩
                              case measure => simp [intOf]; omega
                            · go_wp2_with fail
                              go_ret
                              exact ⟨rfl, F.bel.trans (hbel.mono F.bel.size)⟩
                        · obtain rfl : hb = true := by rw [← HB.out]; exact h1
                          subst h2
                          clear h1 HB HU
                          go_wp2_with fail
                          go_loopw [25] (fun i wr => ∃ k : Nat, k ≤ zm.length ∧ i = .int .i64 k ∧ Below w7.heap.size w7 wr) (fun i _ => zm.length - (intOf i).toNat)
                          case atStart => exact ⟨0, Nat.zero_le _, rfl, hbel⟩
                          case round =>
                            clear hbel
                            obtain ⟨k, hk, rfl, hbel⟩ := hrel
                            by_cases hlt : k < zm.length
                            · have ht := row_u64 htt (us.length + k) 18446744073709551615 (until_get2 us zm.length k 18446744073709551615 hlt) (by omega)
                              have y := cell_later hbel ht
                              have y12 := cell_later hbel x12
                              clear ht
                              go_wp2_with fail
                              go_roundw
                              case rel => exact ⟨k + 1, by omega, by go_num, hbel⟩
                              case measure => simp [intOf]; omega
                            · go_wp2_with fail
                              go_ret
                              exact ⟨rfl, F.bel.trans (hbel.mono F.bel.size)⟩
end Go.Proofs.Ybulkdouo
