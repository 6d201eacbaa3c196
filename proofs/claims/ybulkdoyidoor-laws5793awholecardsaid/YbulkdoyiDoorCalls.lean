import Derived.Test.YbulkdoyiDoorProg
import Derived.WalkKit
import Derived.WalkSpells
import Derived.WalkLawsBesides
import Derived.Deep.QuietTactic
import Derived.BigQuiet
import Derived.LaidEql
import Derived.Deep.DeepCutAuto
import Derived.Maps.AppendAt
namespace Go.Proofs.YbulkdoyiDoor
open Go.RowKit

/-- The bytes that a []byte leads to. -/
def BRow (w : World) (a : Option Addr) (zs : List Int) : Prop := ∀ i x, zs[i]? = some x → ∃ b off, a = some ⟨b, off, none⟩ ∧ w.cell? ⟨b, off + i, none⟩ = some (.int .u8 x)
theorem BRow.later {w w' : World} {a : Option Addr} {zs : List Int} (h : BRow w a zs) (hb : Below w.heap.size w w') : BRow w' a zs := fun i x hx => by
  obtain ⟨b, off, e, hc⟩ := h i x hx
  exact ⟨b, off, e, cell_later hb hc⟩

theorem Ybad.info5 : (Ybad.prog.info? 5).map (fun i => (i.zero, i.size, i.bytes)) = some (some (.int .u8 0), 1, 1) := by kernel_rfl

set_option maxHeartbeats 400000 in
/-- slices.Equal of two slices that hold the same bytes. -/
theorem equal_same (a1 a2 : Option Addr) (c1 c2 : Nat) (zs : List Int) (w : World) (h1 : BRow w a1 zs) (h2 : BRow w a2 zs) (hn : zs.length ≤ 140737488351232) :
    Calls Ybad.prog 6 #[.slice a1 zs.length c1, .slice a2 zs.length c2] w fun e w' => e = .returned (.bool true) ∧ ∃ m, w' = w.drewN m := by
  go_enter Ybad.func6, Ybad.ntmps6
  go_wp2
  go_loopw [13] (fun i wr => ∃ k : Nat, k ≤ zs.length ∧ i = .int .i64 k ∧ ∃ m, wr = w.drewN m) (fun i _ => zs.length - (intOf i).toNat)
  case atStart => exact ⟨0, Nat.zero_le _, rfl, 0, by simp [World.drewN]⟩
  case round =>
    obtain ⟨k, hk, rfl, m, rfl⟩ := hrel
    by_cases hlt : k < zs.length
    · obtain ⟨x, hx⟩ : ∃ x, zs[k]? = some x := ⟨zs[k], by simp [hlt]⟩
      obtain ⟨b1, o1, rfl, q1⟩ := h1 k x hx
      obtain ⟨b2, o2, rfl, q2⟩ := h2 k x hx
      have b0 : (0 : Int) ≤ (k : Int) := by omega
      have bl : (k : Int) < (zs.length : Int) := by omega
      clear hx
      go_wp2
      go_quiet (fail)
      go_wp2
      go_roundw
      case rel => exact ⟨k + 1, by omega, by go_num, m + nq, rfl⟩
      case measure => simp [intOf]; omega
    · go_wp2
      go_ret
      exact ⟨rfl, m, rfl⟩

set_option maxHeartbeats 400000 in
theorem clone_nil (w : World) : Calls Ybad.prog 4 #[.slice none 0 0] w fun e w' => e = .returned (.slice none 0 0) ∧ w' = w := by
  have en := fun (w : World) (a : Option Addr) (l c : Nat) => Lib.run_eql_slice_nil (P := Ybad.prog) w 23 5 a l c 0 0 Ybad.underlying23
  go_enter Ybad.func4, Ybad.ntmps4
  go_wp2
  go_ret
  exact ⟨rfl, rfl⟩

theorem brow_of_owns {w : World} {base : Nat} {v : Value} {zs : List Int} (h : w.ownsRow base 5 1 v zs.length (zs.map (Value.int .u8))) : ∃ ca cc, v = .slice ca zs.length cc ∧ BRow w ca zs := by
  rcases h.2 with ⟨rfl, h0⟩ | ⟨g, cap, cur, rfl, _⟩
  · exact ⟨none, 0, by rw [h0], fun i x hx => by
      have := (List.getElem?_eq_some_iff.1 hx).1
      omega⟩
  · refine ⟨_, cap, rfl, fun i x hx => ⟨g, 0, rfl, ?_⟩⟩
    have hlt := (List.getElem?_eq_some_iff.1 hx).1
    rw [Nat.zero_add, h.cellAt i (by omega)]
    simp [hx]

set_option maxHeartbeats 400000 in
theorem clone_some (x : Addr) (c : Nat) (zs : List Int) (w : World) (h : BRow w (some x) zs) (hn : zs.length ≤ 140737488351232) :
    Calls Ybad.prog 4 #[.slice (some x) zs.length c] w fun e w' => ∃ ca cc, e = .returned (.slice ca zs.length cc) ∧ BRow w' ca zs ∧ Below w.heap.size w w' := by
  have en := fun (w : World) (a : Option Addr) (l c : Nat) => Lib.run_eql_slice_nil (P := Ybad.prog) w 23 5 a l c 0 0 Ybad.underlying23
  obtain ⟨i0, hi, hz0, hz1, hz2⟩ := info_parts Ybad.info5
  have hnews : ∀ j u, (zs.map (Value.int .u8))[j]? = some u → (w.alloc (.cells #[] 5)).cell? (x.add j) = some u := fun j u hj => by
    simp only [List.getElem?_map, Option.map_eq_some_iff] at hj
    obtain ⟨y, hy, rfl⟩ := hj
    obtain ⟨b, off, e, hc⟩ := h j y hy
    cases e
    have hadd : (⟨b, off, none⟩ : Addr).add j = ⟨b, off + j, none⟩ := by unfold Addr.add; split <;> simp_all
    rw [hadd]
    exact cell_later ((Below.refl _ w).alloc (Nat.le_refl _) _) hc
  have HN : Hid (∀ j u, (zs.map (Value.int .u8))[j]? = some u → (w.alloc (.cells #[] 5)).cell? (x.add j) = some u) := hnews
  clear hnews
  go_enter Ybad.func4, Ybad.ntmps4
  go_wp2_with (at_builtin; refine wpList_append_own _ rfl (.tmp 5) (.tmp 6) 23 rfl w.heap.size 5 i0 _ 1 1 Ybad.underlying23 hi hz0 hz1 hz2 rfl (by decide) (.slice (some ⟨w.heap.size, 0, none⟩) 0 0) 0 [] (by rfl) (World.ownsRow_made w #[] 0 (Nat.le_refl _) (by decide) (by rfl)) x zs.length c (zs.map (Value.int .u8)) (by rfl) (by simp) HN.out (ints_oneCell _ _) (by unfold maxLen; omega) (by omega) (by simp) ?_; intro v1 w1 hown hgrow _)
  simp only [List.nil_append, Nat.zero_add] at hown
  obtain ⟨ca, cc, hv, hbr⟩ := brow_of_owns hown
  have hbel : Below w.heap.size w w1 := ((Below.refl _ w).alloc (Nat.le_refl _) (.cells #[] 5)).grown hgrow (by simp) (fun k e => by simp [Value.ownBlock] at e; omega)
  clear hown hgrow
  rw [hv]
  go_ret
  exact ⟨ca, cc, rfl, hbr, hbel⟩

set_option maxHeartbeats 400000 in
theorem fail_nil (bd : Nat) (v : Value) (u : TypeId) (a : Addr) (hv : v = .iface u (.pointer (some a))) (w : World) (h : w.cell? ⟨bd, 4, none⟩ = some .nilIface) (f : w.frozen? ⟨bd, 4, none⟩ = false) :
    Calls Ybad.prog 7 #[.pointer (some ⟨bd, 0, none⟩), v] w fun e w' => e = .returned (.tuple #[]) ∧ w' = w.setCell ⟨bd, 4, none⟩ v := by
  subst hv
  go_enter Ybad.func7, Ybad.ntmps7
  go_wp2
  go_end0
  exact ⟨rfl, rfl⟩

set_option maxHeartbeats 400000 in
/-- An error came first: nothing happens. -/
theorem target_stuck (bd : Nat) (u : TypeId) (x : Value) (t : Int) (w : World) (h4 : w.cell? ⟨bd, 4, none⟩ = some (.iface u x)) :
    Calls Ybad.prog 5 #[.pointer (some ⟨bd, 0, none⟩), .int .u32 t] w fun e w' => e = .returned (.int .u32 0) ∧ w' = w := by
  go_enter Ybad.func5, Ybad.ntmps5
  go_wp2
  go_ret
  exact ⟨rfl, rfl⟩

set_option maxHeartbeats 400000 in
/-- The number lies in range: it is handed back. -/
theorem target_in (bd : Nat) (t code rng Q G : Int) (w : World) (h4 : w.cell? ⟨bd, 4, none⟩ = some .nilIface) (h2 : w.cell? ⟨bd, 2, none⟩ = some (.int .u32 code)) (h3 : w.cell? ⟨bd, 3, none⟩ = some (.int .u32 rng))
    (t0 : ¬ t = 0) (q0 : ¬ Q = 0) (e1 : IntKind.u32.wrap (rng.tdiv t) = Q) (e2 : IntKind.u32.wrap (code.tdiv Q) = G) (hlt : G < t) :
    Calls Ybad.prog 5 #[.pointer (some ⟨bd, 0, none⟩), .int .u32 t] w fun e w' => e = .returned (.int .u32 G) ∧ ∃ m, w' = w.drewN m := by
  go_enter Ybad.func5, Ybad.ntmps5
  go_wp2
  go_quiet (fail)
  go_wp2
  go_ret
  exact ⟨rfl, _, rfl⟩

set_option maxHeartbeats 400000 in
/-- The number lies out of range: it fails, 0 is handed back. -/
theorem target_out (bd : Nat) (t code rng Q G : Int) (u : TypeId) (a : Addr) (w : World) (h4 : w.cell? ⟨bd, 4, none⟩ = some .nilIface) (f4 : w.frozen? ⟨bd, 4, none⟩ = false) (h2 : w.cell? ⟨bd, 2, none⟩ = some (.int .u32 code)) (h3 : w.cell? ⟨bd, 3, none⟩ = some (.int .u32 rng))
    (hg : w.cell? ⟨0, 0, none⟩ = some (.iface u (.pointer (some a))))
    (t0 : ¬ t = 0) (q0 : ¬ Q = 0) (e1 : IntKind.u32.wrap (rng.tdiv t) = Q) (e2 : IntKind.u32.wrap (code.tdiv Q) = G) (hge : t ≤ G) :
    Calls Ybad.prog 5 #[.pointer (some ⟨bd, 0, none⟩), .int .u32 t] w fun e w' => e = .returned (.int .u32 0) ∧ ∃ m, w' = (w.drewN m).setCell ⟨bd, 4, none⟩ (.iface u (.pointer (some a))) := by
  go_enter Ybad.func5, Ybad.ntmps5
  go_wp2
  go_quiet (fail)
  go_wp2_with (go_at_call 7; refine (fail_nil bd _ u a rfl _ (by simpa using h4) (by simpa using f4)).mono ?_; rintro e w' ⟨rfl, rfl⟩)
  go_ret
  exact ⟨rfl, _, rfl⟩

theorem Ybad.comp38 : (Ybad.prog.info? 38).map (·.comparable) = some true := by kernel_rfl
theorem Ybad.comp26 : (Ybad.prog.info? 26).map (·.comparable) = some true := by kernel_rfl
theorem Ybad.size57 : (Ybad.prog.info? 57).map (·.size) = some 1 := by kernel_rfl
theorem Ybad.size28 : (Ybad.prog.info? 28).map (·.size) = some 1 := by kernel_rfl
theorem eql38 (a : Addr) (w : World) : (binOp .eql 25 (.iface 38 (.pointer (some a))) (.iface 38 (.pointer (some a)))).run Ybad.prog w = .ok (.bool true) w := by
  obtain ⟨i, hi, hcmp⟩ := Option.map_eq_some_iff.1 Ybad.comp38
  obtain ⟨j, hj, _⟩ := Option.map_eq_some_iff.1 Ybad.size57
  exact run_eql_iface_ptr_same w a Ybad.underlying25 Ybad.underlying38 hi hcmp hj
theorem eql26 (a : Addr) (w : World) : (binOp .eql 25 (.iface 26 (.pointer (some a))) (.iface 26 (.pointer (some a)))).run Ybad.prog w = .ok (.bool true) w := by
  obtain ⟨i, hi, hcmp⟩ := Option.map_eq_some_iff.1 Ybad.comp26
  obtain ⟨j, hj, _⟩ := Option.map_eq_some_iff.1 Ybad.size28
  exact run_eql_iface_ptr_same w a Ybad.underlying25 Ybad.underlying26 hi hcmp hj

/-- The error that the law sets first: nil, or a pointer that equals itself. -/
def EOk (v : Value) : Prop := v = .nilIface ∨ ∃ u a, v = .iface u (.pointer (some a)) ∧ ∀ w, (binOp .eql 25 (.iface u (.pointer (some a))) (.iface u (.pointer (some a)))).run Ybad.prog w = .ok (.bool true) w

/-- slices.Clone. -/
theorem clone_any (a : Option Addr) (c : Nat) (zs : List Int) (w : World) (h : BRow w a zs) (hn : zs.length ≤ 140737488351232) (hnil : a = none → zs.length = 0 ∧ c = 0) :
    Calls Ybad.prog 4 #[.slice a zs.length c] w fun e w' => ∃ ca cc, e = .returned (.slice ca zs.length cc) ∧ BRow w' ca zs ∧ Below w.heap.size w w' := by
  cases a with
  | none =>
    obtain ⟨h0, rfl⟩ := hnil rfl
    rw [h0]
    refine (clone_nil w).mono ?_
    rintro e w' ⟨rfl, rfl⟩
    exact ⟨none, 0, rfl, h, Below.refl _ _⟩
  | some x => exact clone_some x c zs w h hn

/-- The decoder's five cells. -/
structure Dec (w : World) (bd : Nat) (v0 : Value) (rd code rng : Int) (v4 : Value) : Prop where
  c0 : w.cell? ⟨bd, 0, none⟩ = some v0
  c1 : w.cell? ⟨bd, 1, none⟩ = some (.int .i64 rd)
  c2 : w.cell? ⟨bd, 2, none⟩ = some (.int .u32 code)
  c3 : w.cell? ⟨bd, 3, none⟩ = some (.int .u32 rng)
  c4 : w.cell? ⟨bd, 4, none⟩ = some v4

theorem Dec.drewN {w : World} {bd : Nat} {v0 : Value} {rd code rng : Int} {v4 : Value} (h : Dec w bd v0 rd code rng v4) (m : Nat) : Dec (w.drewN m) bd v0 rd code rng v4 :=
  ⟨by simpa using h.c0, by simpa using h.c1, by simpa using h.c2, by simpa using h.c3, by simpa using h.c4⟩
theorem Dec.fail {w : World} {bd : Nat} {v0 : Value} {rd code rng : Int} {v4 : Value} (h : Dec w bd v0 rd code rng v4) (v : Value) : Dec (w.setCell ⟨bd, 4, none⟩ v) bd v0 rd code rng v :=
  ⟨(World.cell?_setCell_other w ⟨bd, 4, none⟩ ⟨bd, 0, none⟩ v (by simp)).trans h.c0, (World.cell?_setCell_other w ⟨bd, 4, none⟩ ⟨bd, 1, none⟩ v (by simp)).trans h.c1, (World.cell?_setCell_other w ⟨bd, 4, none⟩ ⟨bd, 2, none⟩ v (by simp)).trans h.c2,
   (World.cell?_setCell_other w ⟨bd, 4, none⟩ ⟨bd, 3, none⟩ v (by simp)).trans h.c3, World.cell?_setCell_same w ⟨bd, 4, none⟩ v h.c4⟩

/-- target, whatever the decoder holds. -/
theorem target_any (bd : Nat) (v0 e0 : Value) (rd t code rng : Int) (ea : Addr) (w : World) (he : EOk e0) (D : Dec w bd v0 rd code rng e0) (f4 : w.frozen? ⟨bd, 4, none⟩ = false) (hg : w.cell? ⟨0, 0, none⟩ = some (.iface 38 (.pointer (some ea))))
    (ht : 1 ≤ t) (hr : t ≤ rng) (hr2 : rng ≤ 4294967295) (hc0 : 0 ≤ code) (hc1 : code ≤ 4294967295) :
    Calls Ybad.prog 5 #[.pointer (some ⟨bd, 0, none⟩), .int .u32 t] w fun e w' => ∃ G v, e = .returned (.int .u32 G) ∧ Dec w' bd v0 rd code rng v ∧ Below bd w w' ∧
      ((∃ u x, e0 = .iface u (.pointer (some x)) ∧ G = 0 ∧ v = e0) ∨ (e0 = .nilIface ∧ t ≤ code / (rng / t) ∧ G = 0 ∧ v = .iface 38 (.pointer (some ea))) ∨ (e0 = .nilIface ∧ code / (rng / t) < t ∧ G = code / (rng / t) ∧ v = .nilIface)) := by
  rcases he with rfl | ⟨u, x, rfl, _⟩
  · have hq : 1 ≤ rng / t := (Int.le_ediv_iff_mul_le (by omega)).2 (by omega)
    have e1 : IntKind.u32.wrap (rng.tdiv t) = rng / t := IntWalk.u32_quo _ _ ⟨by omega, hr2, ht⟩
    have e2 : IntKind.u32.wrap (code.tdiv (rng / t)) = code / (rng / t) := IntWalk.u32_quo _ _ ⟨hc0, hc1, hq⟩
    by_cases hlt : code / (rng / t) < t
    · refine (target_in bd t code rng _ _ w D.c4 D.c2 D.c3 (by omega) (by omega) e1 e2 hlt).mono ?_
      rintro e w' ⟨rfl, m, rfl⟩
      exact ⟨_, _, rfl, D.drewN m, below_drewN (Below.refl _ _) _, .inr (.inr ⟨rfl, hlt, rfl, rfl⟩)⟩
    · refine (target_out bd t code rng _ _ 38 ea w D.c4 f4 D.c2 D.c3 hg (by omega) (by omega) e1 e2 (by omega)).mono ?_
      rintro e w' ⟨rfl, m, rfl⟩
      exact ⟨_, _, rfl, (D.drewN m).fail _, (below_drewN (Below.refl bd w) m).setCell (p := ⟨bd, 4, none⟩) (Nat.le_refl bd) _, .inr (.inl ⟨rfl, by omega, rfl, rfl⟩)⟩
  · refine (target_stuck bd u _ t w D.c4).mono ?_
    rintro e w' ⟨rfl, rfl⟩
    exact ⟨_, _, rfl, D, Below.refl _ _, .inl ⟨u, x, rfl, rfl, rfl⟩⟩

end Go.Proofs.YbulkdoyiDoor
