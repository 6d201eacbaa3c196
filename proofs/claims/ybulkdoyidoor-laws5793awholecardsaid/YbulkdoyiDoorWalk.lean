import Derived.Test.YbulkdoyiDoorCalls
import Derived.Deep.CutBlock
namespace Go.Proofs.YbulkdoyiDoor
open Go.RowKit

set_option maxRecDepth 100000 in
set_option maxHeartbeats 2000000 in
theorem main_walk (total rd code rng sel : Int) (a : Option Addr) (c : Nat) (zs : List Int) (ea eb : Addr) (w : World)
    (ht : 0 ≤ total ∧ total ≤ 4294967295) (hc : 0 ≤ code ∧ code ≤ 4294967295) (hr : 0 ≤ rng ∧ rng ≤ 4294967295) (hs : 0 ≤ sel ∧ sel ≤ 255) (hz : BRow w a zs) (hn : zs.length ≤ 140737488351232)
    (hnil : a = none → zs.length = 0 ∧ c = 0)
    (hg0 : w.cell? ⟨0, 0, none⟩ = some (.iface 38 (.pointer (some ea)))) (hg1 : w.cell? ⟨1, 0, none⟩ = some (.iface 38 (.pointer (some eb)))) :
    Calls Ybad.prog 3 #[.int .u32 total, .slice a zs.length c, .int .i64 rd, .int .u32 code, .int .u32 rng, .int .u8 sel] w fun e w' => e = .returned (.bool true) ∧ Below w.heap.size w w' := by
  obtain ⟨ht0, ht1⟩ := ht
  obtain ⟨hc0, hc1⟩ := hc
  obtain ⟨hr0, hr1⟩ := hr
  obtain ⟨hs0, hs1⟩ := hs
  go_enter Ybad.func3, Ybad.ntmps3
  go_upto_if 20 with fail
  go_cut [0] (fun t wx => ∃ T : Int, 1 ≤ T ∧ T ≤ 4294967295 ∧ t = .int .u32 T ∧ w = wx)
  case first =>
    by_cases h0 : total = 0
    · subst h0
      go_wp2_with fail
      go_meet
      case rel => exact ⟨1, by omega, by omega, rfl, rfl⟩
    · have hb : (total == 0) = false := by simp [h0]
      go_wp2_with fail
      go_meet
      case rel => exact ⟨total, by omega, by omega, rfl, rfl⟩
  case rest =>
    obtain ⟨T, hT0, hT1, rfl, rfl⟩ := hcut
    go_upto_if 23 with fail
    go_cut [4] (fun t wx => ∃ R : Int, T ≤ R ∧ R ≤ 4294967295 ∧ t = .int .u32 R ∧ w = wx)
    case first =>
      by_cases h0 : rng < T
      · go_wp2_with fail
        go_meet
        case rel => exact ⟨T, by omega, by omega, rfl, rfl⟩
      · go_wp2_with fail
        go_meet
        case rel => exact ⟨rng, by omega, by omega, rfl, rfl⟩
    case rest =>
      obtain ⟨R, hR0, hR1, rfl, rfl⟩ := hcut
      clear ht0 ht1 hr0 hr1
      go_upto_block 0 with fail
      go_cut [13] (fun v wx => EOk v ∧ Below w.heap.size w wx)
      case first =>
        have h4 : sel % 4 = 0 ∨ sel % 4 = 1 ∨ sel % 4 = 2 ∨ sel % 4 = 3 := by omega
        rcases h4 with h4 | h4 | h4 | h4
        · go_wp2_with fail
          go_meet
          case rel => exact ⟨.inl rfl, Below.refl _ _⟩
        · go_wp2_with fail
          go_meet
          case rel => exact ⟨.inr ⟨38, ea, rfl, eql38 ea⟩, Below.refl _ _⟩
        · go_wp2_with fail
          go_meet
          case rel => exact ⟨.inr ⟨38, eb, rfl, eql38 eb⟩, Below.refl _ _⟩
        · go_wp2_with fail
          go_meet
          case rel => exact ⟨.inr ⟨26, _, rfl, eql26 _⟩, (Below.refl _ w).alloc (Nat.le_refl _) _⟩
      case rest =>
        obtain ⟨he, hb1⟩ := hcut
        have hz1 := hz.later hb1
        have hg0' := cell_later hb1 hg0
        clear hg0 hg1 hz hs0 hs1
        have HN : Hid (a = none → zs.length = 0 ∧ c = 0) := hnil
        clear hnil
        rcases he with rfl | ⟨u, x, rfl, heq⟩
        · go_wp2_with (go_at_call 4; refine (clone_any a c zs _ hz1 hn HN.out).mono ?_; rintro e w2 ⟨ca, cc, rfl, hcl, hb2⟩)
          have hal : Below w2.heap.size w2 (w2.alloc (.cells #[.slice a zs.length c, .int .i64 rd, .int .u32 code, .int .u32 R, .nilIface] 32)) := (Below.refl _ w2).alloc (Nat.le_refl _) _
          have D : Dec (w2.alloc (.cells #[.slice a zs.length c, .int .i64 rd, .int .u32 code, .int .u32 R, .nilIface] 32)) w2.heap.size (.slice a zs.length c) rd code R (.nilIface) := by
            constructor <;> (rw [cell_of_row _ _ _ _ _ _ (heap_alloc_new w2 _)]; rfl)
          have f4 : (w2.alloc (.cells #[.slice a zs.length c, .int .i64 rd, .int .u32 code, .int .u32 R, .nilIface] 32)).frozen? ⟨w2.heap.size, 4, none⟩ = false := frozen_of_row _ _ _ _ _ (heap_alloc_new w2 _)
          refine (target_any w2.heap.size _ (.nilIface) rd T code R ea _ (.inl rfl) D f4 (cell_later hal (cell_later hb2 hg0')) hT0 hR0 hR1 hc0 hc1).mono ?_
          rintro e w3 ⟨G, v, rfl, D3, hb3, hcase⟩
          have hb23 : Below w2.heap.size w2 w3 := hal.trans hb3
          have hA := (hz1.later hb2).later hb23
          have hC := hcl.later hb23
          have hg3 := cell_later hb23 (cell_later hb2 hg0')
          have hbf : Below w.heap.size w w3 := (hb1.trans (hb2.mono hb1.size)).trans (hb23.mono (Nat.le_trans hb1.size hb2.size))
          have c0 := D3.c0
          have c1 := D3.c1
          have c2 := D3.c2
          have c3 := D3.c3
          have c4 := D3.c4
          clear hal D f4 hb3 hb23 hb2 hcl hz1 hg0' D3 HN hb1
          have en := fun (w : World) (a : Option Addr) (l c : Nat) => Lib.run_eql_slice_nil (P := Ybad.prog) w 23 5 a l c 0 0 Ybad.underlying23
          obtain ⟨Q, hQ⟩ : ∃ Q, R / T = Q := ⟨_, rfl⟩
          have hQ1 : 1 ≤ Q := by rw [← hQ]; exact (Int.le_ediv_iff_mul_le (by omega)).2 (by omega)
          have hTQ : T * Q ≤ 4294967295 := by rw [← hQ]; have := Int.mul_ediv_self_le (x := R) (k := T) (by omega); omega
          have hTQ0 : 0 ≤ T * Q := Int.mul_nonneg (by omega) (by omega)
          have hQR : Q ≤ 4294967295 := by rw [← hQ]; have := Int.ediv_le_self (b := T) (show 0 ≤ R by omega); omega
          rw [hQ] at hcase
          rcases hcase with ⟨u, x, hu, _⟩ | ⟨_, hge, rfl, rfl⟩ | ⟨_, hlt, hG, rfl⟩
          · cases hu
          · have hle : T * Q ≤ code := (Int.le_ediv_iff_mul_le (by omega)).1 hge
            have heq := eql38 ea
            clear hge
            go_wp2_with (first | (go_at_call 6; refine (equal_same a ca c cc zs w3 hA hC hn).mono ?_; rintro e w' ⟨rfl, m1, rfl⟩) | (go_at_call 6; refine (equal_same a ca c cc zs _ (hA.later (below_drewN (Below.refl _ _) _)) (hC.later (below_drewN (Below.refl _ _) _)) hn).mono ?_; rintro e w' ⟨rfl, m2, rfl⟩))
            go_quiet (fail)
            go_wp2
            go_ret
            exact ⟨rfl, below_drewN (below_drewN hbf _) _⟩
          · have hgt : code < T * Q := by
              rcases Int.lt_or_le code (T * Q) with h | h
              · exact h
              · have := (Int.le_ediv_iff_mul_le (show 0 < Q by omega)).2 h
                omega
            have hG0 : 0 ≤ G := by rw [hG]; exact Int.ediv_nonneg (by omega) (by omega)
            have hGT : G < T := by rw [hG]; exact hlt
            have hGQ : G * Q ≤ code := by rw [hG]; exact Int.ediv_mul_le code (by omega)
            have hGQ0 : 0 ≤ G * Q := Int.mul_nonneg (by omega) (by omega)
            have hGS : code < (G + 1) * Q := by rw [hG]; exact Int.lt_ediv_add_one_mul_self code (by omega)
            have hGS1 : (G + 1) * Q ≤ 8589934590 := by rw [Int.add_mul]; omega
            have hGS0 : 0 ≤ (G + 1) * Q := Int.mul_nonneg (by omega) (by omega)
            clear hG hlt
            go_wp2_with (first | (go_at_call 6; refine (equal_same a ca c cc zs w3 hA hC hn).mono ?_; rintro e w' ⟨rfl, m1, rfl⟩) | (go_at_call 6; refine (equal_same a ca c cc zs _ (hA.later (below_drewN (Below.refl _ _) _)) (hC.later (below_drewN (Below.refl _ _) _)) hn).mono ?_; rintro e w' ⟨rfl, m2, rfl⟩))
            go_ret
            exact ⟨rfl, below_drewN hbf _⟩
        · go_wp2_with (go_at_call 4; refine (clone_any a c zs _ hz1 hn HN.out).mono ?_; rintro e w2 ⟨ca, cc, rfl, hcl, hb2⟩)
          have hal : Below w2.heap.size w2 (w2.alloc (.cells #[.slice a zs.length c, .int .i64 rd, .int .u32 code, .int .u32 R, .iface u (.pointer (some x))] 32)) := (Below.refl _ w2).alloc (Nat.le_refl _) _
          have D : Dec (w2.alloc (.cells #[.slice a zs.length c, .int .i64 rd, .int .u32 code, .int .u32 R, .iface u (.pointer (some x))] 32)) w2.heap.size (.slice a zs.length c) rd code R (.iface u (.pointer (some x))) := by
            constructor <;> (rw [cell_of_row _ _ _ _ _ _ (heap_alloc_new w2 _)]; rfl)
          have f4 : (w2.alloc (.cells #[.slice a zs.length c, .int .i64 rd, .int .u32 code, .int .u32 R, .iface u (.pointer (some x))] 32)).frozen? ⟨w2.heap.size, 4, none⟩ = false := frozen_of_row _ _ _ _ _ (heap_alloc_new w2 _)
          refine (target_any w2.heap.size _ (.iface u (.pointer (some x))) rd T code R ea _ (.inr ⟨u, x, rfl, heq⟩) D f4 (cell_later hal (cell_later hb2 hg0')) hT0 hR0 hR1 hc0 hc1).mono ?_
          rintro e w3 ⟨G, v, rfl, D3, hb3, hcase⟩
          have hb23 : Below w2.heap.size w2 w3 := hal.trans hb3
          have hA := (hz1.later hb2).later hb23
          have hC := hcl.later hb23
          have hg3 := cell_later hb23 (cell_later hb2 hg0')
          have hbf : Below w.heap.size w w3 := (hb1.trans (hb2.mono hb1.size)).trans (hb23.mono (Nat.le_trans hb1.size hb2.size))
          have c0 := D3.c0
          have c1 := D3.c1
          have c2 := D3.c2
          have c3 := D3.c3
          have c4 := D3.c4
          clear hal D f4 hb3 hb23 hb2 hcl hz1 hg0' D3 HN hb1
          have en := fun (w : World) (a : Option Addr) (l c : Nat) => Lib.run_eql_slice_nil (P := Ybad.prog) w 23 5 a l c 0 0 Ybad.underlying23
          rcases hcase with ⟨u', x', _, rfl, rfl⟩ | ⟨hu, _⟩ | ⟨hu, _⟩
          · go_wp2_with (first | (go_at_call 6; refine (equal_same a ca c cc zs w3 hA hC hn).mono ?_; rintro e w' ⟨rfl, m1, rfl⟩) | (go_at_call 6; refine (equal_same a ca c cc zs _ (hA.later (below_drewN (Below.refl _ _) _)) (hC.later (below_drewN (Below.refl _ _) _)) hn).mono ?_; rintro e w' ⟨rfl, m2, rfl⟩))
            go_ret
            exact ⟨rfl, below_drewN hbf _⟩
          · cases hu
          · cases hu
end Go.Proofs.YbulkdoyiDoor
