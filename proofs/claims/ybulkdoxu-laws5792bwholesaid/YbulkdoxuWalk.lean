import Derived.Test.YbulkdoxuPay
namespace Go.Proofs.Ybulkdoxu
open Go.RowKit

def zs188 : Array Value := Array.replicate 188 (.int .u8 0)
theorem zero23 : (Yba.prog.info? 23).map (fun i => (i.zero, i.size)) = some (some (.agg zs188), 188) := by kernel_rfl
theorem size22 : (Yba.prog.info? 22).map (·.size) = some 188 := by kernel_rfl

/-- What the law is handed: 188 bytes. -/
structure IsPkt (ps : Array Value) (f : Nat → Int) : Prop where
  size : ps.size = 188
  at_ : ∀ i, i < 188 → ps[i]? = some (.int .u8 (f i))
  lo : ∀ i, i < 188 → 0 ≤ f i ∧ f i ≤ 255

theorem IsPkt.one {ps : Array Value} {f : Nat → Int} (h : IsPkt ps f) : ps.all (·.oneCell') = true := by
  rw [Array.all_eq_true]
  intro i hi
  have := h.at_ i (by rw [← h.size]; exact hi)
  rw [Array.getElem?_eq_getElem hi] at this
  rw [Option.some.inj this]
  rfl

theorem IsPkt.eq {ps : Array Value} {f : Nat → Int} (h : IsPkt ps f) (w : World) : (Op.equalIn 10000 23 (.agg ps) (.agg ps)).run Yba.prog w = .ok true w :=
  run_equalIn_array_self w 9999 23 5 188 ps Yba.underlying23 Yba.sizeOf5 Yba.isAgg5 (fun i hi => ⟨_, h.at_ i hi, fun w => by
    rw [run_equalIn_int w 9998 5 .u8 .u8 (f i) (f i) Yba.underlying5]; simp⟩)

/-- The world behind the two boxes. -/
def W2 (w : World) (ps : Array Value) : World := (w.alloc (.cells ps 22)).alloc (.cells ps 23)
theorem W2_0 (w : World) (ps : Array Value) : (W2 w ps).heap[w.heap.size]? = some (.cells ps 22 (0, 0)) := heap_alloc2_old w _ _
theorem W2_1 (w : World) (ps : Array Value) : (W2 w ps).heap[w.heap.size + 1]? = some (.cells ps 23 (0, 0)) := heap_alloc2_new w _ _

/-- What the law looks at: the two boxes; nothing that was there has turned. -/
structure Boxes (w : World) (f : Nat → Int) (W : World) : Prop where
  p : ∀ j, j < 188 → W.cell? ⟨w.heap.size, j, none⟩ = some (.int .u8 (f j))
  q : ∀ j, j < 188 → W.cell? ⟨w.heap.size + 1, j, none⟩ = some (.int .u8 (f j))
  bel : Below w.heap.size w W
theorem boxes (w : World) (ps : Array Value) (f : Nat → Int) (h : IsPkt ps f) : Boxes w f ((w.alloc (.cells ps 22)).alloc (.cells ps 23)) :=
  ⟨fun j hj => (cell_of_row _ _ j _ _ _ (W2_0 w ps)).trans (h.at_ j hj), fun j hj => (cell_of_row _ _ j _ _ _ (W2_1 w ps)).trans (h.at_ j hj), ((Below.refl _ w).alloc (Nat.le_refl _) _).alloc (by simp) _⟩

theorem IsPkt.get {ps : Array Value} {f : Nat → Int} (h : IsPkt ps f) (i : Nat) (hi : i < 188) : ps[i]'(by rw [h.size]; exact hi) = .int .u8 (f i) := by
  have := h.at_ i hi
  rw [Array.getElem?_eq_getElem (by rw [h.size]; exact hi)] at this
  exact Option.some.inj this

/-- The two bits of byte 3. -/
theorem four_cases (x : Int) (h0 : 0 ≤ x) (h1 : x ≤ 255) :
    (bits .and .u8 (x / 16) 3 = 0 ∧ (bits .and .u8 x 16 != 0) = false) ∨ (bits .and .u8 (x / 16) 3 = 2 ∧ (bits .and .u8 x 16 != 0) = false) ∨
    (bits .and .u8 (x / 16) 3 = 1 ∧ (bits .and .u8 x 16 != 0) = true ∧ (bits .and .u8 x 32 != 0) = false) ∨ (bits .and .u8 (x / 16) 3 = 3 ∧ (bits .and .u8 x 16 != 0) = true ∧ (bits .and .u8 x 32 != 0) = true) := by
  have key : ∀ n : Fin 256, (bits .and .u8 ((n.val : Int) / 16) 3 = 0 ∧ (bits .and .u8 (n.val : Int) 16 != 0) = false) ∨ (bits .and .u8 ((n.val : Int) / 16) 3 = 2 ∧ (bits .and .u8 (n.val : Int) 16 != 0) = false) ∨
    (bits .and .u8 ((n.val : Int) / 16) 3 = 1 ∧ (bits .and .u8 (n.val : Int) 16 != 0) = true ∧ (bits .and .u8 (n.val : Int) 32 != 0) = false) ∨ (bits .and .u8 ((n.val : Int) / 16) 3 = 3 ∧ (bits .and .u8 (n.val : Int) 16 != 0) = true ∧ (bits .and .u8 (n.val : Int) 32 != 0) = true) := by decide +kernel
  have := key ⟨x.toNat, by omega⟩
  simpa [Int.toNat_of_nonneg h0] using this

set_option maxHeartbeats 400000 in
theorem main_none0 (ps : Array Value) (f : Nat → Int) (w : World) (h : IsPkt ps f) (hA : bits .and .u8 (f 3 / 16) 3 = 0) (h1 : (bits .and .u8 (f 3) 16 != 0) = false) :
    Calls Yba.prog 3 #[.agg ps] w fun e w' => e = .returned (.bool true) ∧ Below w.heap.size w w' := by
  obtain ⟨hz, hi23⟩ := zero_of_info zero23
  have hsz := h.size
  have hst := run_storeCells_new (P := Yba.prog) (w.alloc (.cells ps 22)) 23 zs188 ps (by rw [h.size]; exact hi23) (by rw [h.size]; rfl) h.one
  simp only [World.size_alloc] at hst
  have heq := h.eq
  have q3 := (boxes w ps f h).q 3 (by omega)
  have q4 := (boxes w ps f h).q 4 (by omega)
  have g3 := h.get 3 (by omega)
  have g4 := h.get 4 (by omega)
  obtain ⟨hx0, hx1⟩ := h.lo 3 (by omega)
  have en := fun (w : World) (a : Option Addr) (l c : Nat) => Lib.run_eql_slice_nil (P := Yba.prog) w 24 5 a l c 0 0 Yba.underlying24
  go_enter Yba.func3, Yba.ntmps3
  go_wp2_with (first | (go_at_call 4; refine (payload_none _ _ _ q3 h1).mono ?_; rintro e w' ⟨rfl, rfl⟩) | (refine wpList_load_row rfl 22 (.tmp 1) rfl w.heap.size rfl 22 ps (0, 0) _ (heap_alloc_new w _) Yba.underlying22 rfl (by rw [hsz]; exact size22) ?_) | (refine wpList_load_row rfl 22 (.tmp 1) rfl w.heap.size rfl 22 ps (0, 0) _ (W2_0 w ps) Yba.underlying22 rfl (by rw [hsz]; exact size22) ?_) | (refine wpList_load_row rfl 23 (.tmp 3) rfl (w.heap.size + 1) rfl 23 ps (0, 0) _ (W2_1 w ps) Yba.underlying23 rfl (by rw [hsz]; exact hi23) ?_))
  go_ret
  exact ⟨rfl, (boxes w ps f h).bel⟩

set_option maxHeartbeats 400000 in
theorem main_none2 (ps : Array Value) (f : Nat → Int) (w : World) (h : IsPkt ps f) (hA : bits .and .u8 (f 3 / 16) 3 = 2) (h1 : (bits .and .u8 (f 3) 16 != 0) = false) :
    Calls Yba.prog 3 #[.agg ps] w fun e w' => e = .returned (.bool true) ∧ Below w.heap.size w w' := by
  obtain ⟨hz, hi23⟩ := zero_of_info zero23
  have hsz := h.size
  have hst := run_storeCells_new (P := Yba.prog) (w.alloc (.cells ps 22)) 23 zs188 ps (by rw [h.size]; exact hi23) (by rw [h.size]; rfl) h.one
  simp only [World.size_alloc] at hst
  have heq := h.eq
  have q3 := (boxes w ps f h).q 3 (by omega)
  have q4 := (boxes w ps f h).q 4 (by omega)
  have g3 := h.get 3 (by omega)
  have g4 := h.get 4 (by omega)
  obtain ⟨hx0, hx1⟩ := h.lo 3 (by omega)
  have en := fun (w : World) (a : Option Addr) (l c : Nat) => Lib.run_eql_slice_nil (P := Yba.prog) w 24 5 a l c 0 0 Yba.underlying24
  go_enter Yba.func3, Yba.ntmps3
  go_wp2_with (first | (go_at_call 4; refine (payload_none _ _ _ q3 h1).mono ?_; rintro e w' ⟨rfl, rfl⟩) | (refine wpList_load_row rfl 22 (.tmp 1) rfl w.heap.size rfl 22 ps (0, 0) _ (heap_alloc_new w _) Yba.underlying22 rfl (by rw [hsz]; exact size22) ?_) | (refine wpList_load_row rfl 22 (.tmp 1) rfl w.heap.size rfl 22 ps (0, 0) _ (W2_0 w ps) Yba.underlying22 rfl (by rw [hsz]; exact size22) ?_) | (refine wpList_load_row rfl 23 (.tmp 3) rfl (w.heap.size + 1) rfl 23 ps (0, 0) _ (W2_1 w ps) Yba.underlying23 rfl (by rw [hsz]; exact hi23) ?_))
  go_ret
  exact ⟨rfl, (boxes w ps f h).bel⟩

theorem Boxes.drewN {w : World} {f : Nat → Int} {W : World} (h : Boxes w f W) (n : Nat) : Boxes w f (W.drewN n) := ⟨fun j hj => by simpa using h.p j hj, fun j hj => by simpa using h.q j hj, below_drewN h.bel n⟩

set_option maxHeartbeats 400000 in
theorem main_out (ps : Array Value) (f : Nat → Int) (n : Nat) (w : World) (h : IsPkt ps f) (hA : bits .and .u8 (f 3 / 16) 3 = 3) (h1 : (bits .and .u8 (f 3) 16 != 0) = true) (h2 : (bits .and .u8 (f 3) 32 != 0) = true) (hf4 : f 4 = n) (hn : 183 ≤ n) (hn2 : n ≤ 255) :
    Calls Yba.prog 3 #[.agg ps] w fun e w' => e = .returned (.bool true) ∧ Below w.heap.size w w' := by
  obtain ⟨hz, hi23⟩ := zero_of_info zero23
  have hsz := h.size
  have hst := run_storeCells_new (P := Yba.prog) (w.alloc (.cells ps 22)) 23 zs188 ps (by rw [h.size]; exact hi23) (by rw [h.size]; rfl) h.one
  simp only [World.size_alloc] at hst
  have heq := h.eq
  have q3 := (boxes w ps f h).q 3 (by omega)
  have q4 := (boxes w ps f h).q 4 (by omega)
  have g3 := h.get 3 (by omega)
  have g4 := h.get 4 (by omega)
  obtain ⟨hx0, hx1⟩ := h.lo 3 (by omega)
  have en := fun (w : World) (a : Option Addr) (l c : Nat) => Lib.run_eql_slice_nil (P := Yba.prog) w 24 5 a l c 0 0 Yba.underlying24
  rw [hf4] at q4 g4
  have hd : decide ((0 : Int) < 0) = false := rfl
  go_enter Yba.func3, Yba.ntmps3
  go_wp2_with (first | (go_at_call 4; refine (payload_out _ _ _ _ q3 q4 h1 h2 hn hn2).mono ?_; rintro e w' ⟨rfl, rfl⟩) | (refine wpList_load_row rfl 22 (.tmp 1) rfl w.heap.size rfl 22 ps (0, 0) _ (heap_alloc_new w _) Yba.underlying22 rfl (by rw [hsz]; exact size22) ?_) | (refine wpList_load_row rfl 22 (.tmp 1) rfl w.heap.size rfl 22 ps (0, 0) _ (W2_0 w ps) Yba.underlying22 rfl (by rw [hsz]; exact size22) ?_) | (refine wpList_load_row rfl 23 (.tmp 3) rfl (w.heap.size + 1) rfl 23 ps (0, 0) _ (W2_1 w ps) Yba.underlying23 rfl (by rw [hsz]; exact hi23) ?_))
  all_goals
    refine wp_loop_rounds 1 ?_
    rw [rounds_succ]
    go_wp2_with fail
    go_quiet (fail)
    go_wp2
    go_ret
    exact ⟨rfl, below_drewN (boxes w ps f h).bel _⟩

set_option maxHeartbeats 400000 in
theorem main_in (ps : Array Value) (f : Nat → Int) (n : Nat) (w : World) (h : IsPkt ps f) (hA : bits .and .u8 (f 3 / 16) 3 = 3) (h1 : (bits .and .u8 (f 3) 16 != 0) = true) (h2 : (bits .and .u8 (f 3) 32 != 0) = true) (hf4 : f 4 = n) (hn : n < 183) (L : Nat) (hL1 : L + (5 + n) ≤ 188) (hL2 : 188 ≤ L + (5 + n)) :
    Calls Yba.prog 3 #[.agg ps] w fun e w' => e = .returned (.bool true) ∧ Below w.heap.size w w' := by
  obtain ⟨hz, hi23⟩ := zero_of_info zero23
  have hsz := h.size
  have hst := run_storeCells_new (P := Yba.prog) (w.alloc (.cells ps 22)) 23 zs188 ps (by rw [h.size]; exact hi23) (by rw [h.size]; rfl) h.one
  simp only [World.size_alloc] at hst
  have heq := h.eq
  have q3 := (boxes w ps f h).q 3 (by omega)
  have q4 := (boxes w ps f h).q 4 (by omega)
  have g3 := h.get 3 (by omega)
  have g4 := h.get 4 (by omega)
  obtain ⟨hx0, hx1⟩ := h.lo 3 (by omega)
  have en := fun (w : World) (a : Option Addr) (l c : Nat) => Lib.run_eql_slice_nil (P := Yba.prog) w 24 5 a l c 0 0 Yba.underlying24
  rw [hf4] at q4 g4
  go_enter Yba.func3, Yba.ntmps3
  go_wp2_with (first | (go_at_call 4; refine (payload_in _ _ L _ _ q3 q4 h1 h2 hn hL1 hL2).mono ?_; rintro e w' ⟨rfl, rfl⟩) | (refine wpList_load_row rfl 22 (.tmp 1) rfl w.heap.size rfl 22 ps (0, 0) _ (heap_alloc_new w _) Yba.underlying22 rfl (by rw [hsz]; exact size22) ?_) | (refine wpList_load_row rfl 22 (.tmp 1) rfl w.heap.size rfl 22 ps (0, 0) _ (W2_0 w ps) Yba.underlying22 rfl (by rw [hsz]; exact size22) ?_) | (refine wpList_load_row rfl 23 (.tmp 3) rfl (w.heap.size + 1) rfl 23 ps (0, 0) _ (W2_1 w ps) Yba.underlying23 rfl (by rw [hsz]; exact hi23) ?_))
  clear hz hst heq q3 q4 g3 g4 hi23 hsz
  go_loopw [7] (fun i wr => ∃ k : Nat, k ≤ L ∧ i = .int .i64 k ∧ Boxes w f wr) (fun i _ => L - (intOf i).toNat)
  case atStart => exact ⟨0, Nat.zero_le _, rfl, boxes w ps f h⟩
  case round =>
    obtain ⟨k, hk, rfl, B⟩ := hrel
    by_cases hlt : k < L
    · have cp := B.p ((5 + n) + k) (by omega)
      have cq := B.q ((5 + n) + k) (by omega)
      have b1 : (0 : Int) ≤ (k : Int) := by omega
      have b2 : (k : Int) < (L : Int) := by omega
      have b3 : (0 : Int) ≤ (5 + (n : Int)) + (k : Int) := by omega
      have b4 : (5 + (n : Int)) + (k : Int) < 188 := by omega
      have b5 : ((5 + (n : Int)) + (k : Int)).toNat = (5 + n) + k := by omega
      have b6 : IntKind.i64.wrap ((5 + (n : Int)) + (k : Int)) = (5 + (n : Int)) + (k : Int) := by rw [IntKind.wrap_i64]; omega
      go_wp2_with fail
      go_quiet (fail)
      go_wp2_with fail
      go_roundw
      case rel => exact ⟨k + 1, by omega, by go_num, B.drewN _⟩
      case measure => simp [intOf]; omega
    · have cq := B.q (5 + n) (by omega)
      have bN : 0 < L := by omega
      have hpe := neq_self
      have b3 : (0 : Int) ≤ (5 + (n : Int)) := by omega
      have b4 : (5 + (n : Int)) < 188 := by omega
      have b5 : ((5 + (n : Int))).toNat = (5 + n) := by omega
      have b2 : (0 : Int) < (L : Int) := by omega
      go_wp2_with fail
      go_quiet (fail)
      go_wp2_with fail
      go_ret
      exact ⟨rfl, below_drewN B.bel _⟩

set_option maxRecDepth 100000 in
set_option maxHeartbeats 400000 in
theorem main_four (ps : Array Value) (f : Nat → Int) (w : World) (h : IsPkt ps f) (hA : bits .and .u8 (f 3 / 16) 3 = 1) (h1 : (bits .and .u8 (f 3) 16 != 0) = true) (h2 : (bits .and .u8 (f 3) 32 != 0) = false) :
    Calls Yba.prog 3 #[.agg ps] w fun e w' => e = .returned (.bool true) ∧ Below w.heap.size w w' := by
  obtain ⟨hz, hi23⟩ := zero_of_info zero23
  have hsz := h.size
  have hst := run_storeCells_new (P := Yba.prog) (w.alloc (.cells ps 22)) 23 zs188 ps (by rw [h.size]; exact hi23) (by rw [h.size]; rfl) h.one
  simp only [World.size_alloc] at hst
  have heq := h.eq
  have q3 := (boxes w ps f h).q 3 (by omega)
  have q4 := (boxes w ps f h).q 4 (by omega)
  have g3 := h.get 3 (by omega)
  have g4 := h.get 4 (by omega)
  obtain ⟨hx0, hx1⟩ := h.lo 3 (by omega)
  have en := fun (w : World) (a : Option Addr) (l c : Nat) => Lib.run_eql_slice_nil (P := Yba.prog) w 24 5 a l c 0 0 Yba.underlying24
  go_enter Yba.func3, Yba.ntmps3
  go_wp2_with (first | (go_at_call 4; refine (payload_four _ _ _ q3 h1 h2).mono ?_; rintro e w' ⟨rfl, rfl⟩) | (refine wpList_load_row rfl 22 (.tmp 1) rfl w.heap.size rfl 22 ps (0, 0) _ (heap_alloc_new w _) Yba.underlying22 rfl (by rw [hsz]; exact size22) ?_) | (refine wpList_load_row rfl 22 (.tmp 1) rfl w.heap.size rfl 22 ps (0, 0) _ (W2_0 w ps) Yba.underlying22 rfl (by rw [hsz]; exact size22) ?_) | (refine wpList_load_row rfl 23 (.tmp 3) rfl (w.heap.size + 1) rfl 23 ps (0, 0) _ (W2_1 w ps) Yba.underlying23 rfl (by rw [hsz]; exact hi23) ?_))
  clear hz hst heq q3 q4 g3 g4 hi23 hsz
  go_loopw [7] (fun i wr => ∃ k : Nat, k ≤ 184 ∧ i = .int .i64 k ∧ Boxes w f wr) (fun i _ => 184 - (intOf i).toNat)
  case atStart => exact ⟨0, Nat.zero_le _, rfl, boxes w ps f h⟩
  case round =>
    obtain ⟨k, hk, rfl, B⟩ := hrel
    by_cases hlt : k < 184
    · have cp := B.p (4 + k) (by omega)
      have cq := B.q (4 + k) (by omega)
      have b1 : (0 : Int) ≤ (k : Int) := by omega
      have b2 : (k : Int) < (184 : Int) := by omega
      have b3 : (0 : Int) ≤ (4 : Int) + (k : Int) := by omega
      have b4 : (4 : Int) + (k : Int) < 188 := by omega
      have b5 : ((4 : Int) + (k : Int)).toNat = 4 + k := by omega
      have b6 : IntKind.i64.wrap ((4 : Int) + (k : Int)) = (4 : Int) + (k : Int) := by rw [IntKind.wrap_i64]; omega
      go_wp2_with fail
      go_quiet (fail)
      go_wp2_with fail
      go_roundw
      case rel => exact ⟨k + 1, by omega, by go_num, B.drewN _⟩
      case measure => simp [intOf]; omega
    · have cq := B.q 4 (by omega)
      have bN : 0 < 184 := by omega
      have hpe := neq_self
      have b3 : (0 : Int) ≤ (4 : Int) := by omega
      have b4 : (4 : Int) < 188 := by omega
      have b5 : ((4 : Int)).toNat = 4 := by omega
      have b2 : (0 : Int) < (184 : Int) := by omega
      go_wp2_with fail
      go_quiet (fail)
      go_wp2_with fail
      go_ret
      exact ⟨rfl, below_drewN B.bel _⟩


theorem main_all (ps : Array Value) (f : Nat → Int) (w : World) (h : IsPkt ps f) :
    Calls Yba.prog 3 #[.agg ps] w fun e w' => e = .returned (.bool true) ∧ Below w.heap.size w w' := by
  rcases four_cases (f 3) (h.lo 3 (by omega)).1 (h.lo 3 (by omega)).2 with ⟨hA, h1⟩ | ⟨hA, h1⟩ | ⟨hA, h1, h2⟩ | ⟨hA, h1, h2⟩
  · exact main_none0 ps f w h hA h1
  · exact main_none2 ps f w h hA h1
  · exact main_four ps f w h hA h1 h2
  · have h4 := h.lo 4 (by omega)
    have hf4 : f 4 = ((f 4).toNat : Int) := by omega
    by_cases hn : (f 4).toNat < 183
    · exact main_in ps f (f 4).toNat w h hA h1 h2 hf4 hn (188 - (5 + (f 4).toNat)) (by omega) (by omega)
    · exact main_out ps f (f 4).toNat w h hA h1 h2 hf4 (by omega) (by omega)
end Go.Proofs.Ybulkdoxu
