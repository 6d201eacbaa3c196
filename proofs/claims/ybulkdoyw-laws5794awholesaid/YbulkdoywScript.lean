import Derived.Test.YbulkdoywTell
namespace Go.Proofs.Ybulkdoyw
open Go.RowKit

/-! ### The plain law: what found hears -/
def step (s : Bool × List Bool) (d : Bool) : Bool × List Bool := if s.1 = d then s else (d, s.2 ++ [d])
def st (was : Bool) (l : List Bool) : Bool × List Bool := l.foldl step (was, [])
theorem st_succ (was : Bool) (ds : List Bool) (k : Nat) (d : Bool) (h : ds[k]? = some d) : st was (ds.take (k + 1)) = step (st was (ds.take k)) d := by
  obtain ⟨hlt, rfl⟩ := List.getElem?_eq_some_iff.1 h
  unfold st
  rw [List.take_succ_eq_append_getElem hlt, List.foldl_append]
  rfl
theorem step_fst (s : Bool × List Bool) (d : Bool) : (step s d).1 = d := by
  unfold step
  split
  · assumption
  · rfl
theorem step_eq (s : Bool × List Bool) (d : Bool) (h : s.1 = d) : step s d = s := by simp [step, h]
theorem step_ne (s : Bool × List Bool) (d : Bool) (h : s.1 ≠ d) : step s d = (d, s.2 ++ [d]) := by simp [step, h]
theorem step_len (s : Bool × List Bool) (d : Bool) : (step s d).2.length ≤ s.2.length + 1 := by
  unfold step
  split
  · omega
  · simp
theorem st_len (was : Bool) (ds : List Bool) : ∀ k, k ≤ ds.length → (st was (ds.take k)).2.length ≤ k
  | 0, _ => by simp [st]
  | k + 1, h => by
    have := st_len was ds k (by omega)
    rw [st_succ was ds k ds[k] (by simp)]
    have := step_len (st was (ds.take k)) ds[k]
    omega
theorem st_last (was : Bool) (ds : List Bool) (d : Bool) (h : ds[ds.length - 1]? = some d) : (st was ds).1 = d := by
  have hlt := (List.getElem?_eq_some_iff.1 h).1
  have e := st_succ was ds (ds.length - 1) d h
  rw [show ds.length - 1 + 1 = ds.length from by omega, List.take_length] at e
  rw [e]
  exact step_fst _ _

theorem told_start (w : World) (id : Int) (addr : ByteArray) (fnd : Value) (grace : Int) (down : Bool) :
    Told w id addr fnd grace down (.slice none 0 0) [] ((w.alloc (.cells #[.slice none 0 0] 22)).alloc (.cells (pcells id addr fnd grace down) 39)) :=
  ⟨heap_alloc2_old w _ _, heap_alloc2_new w _ _, World.ownsRow_nil _ _ _ _, ((Below.refl _ w).alloc (Nat.le_refl _) _).alloc (by simp) _⟩

set_option maxHeartbeats 400000 in
theorem script_big (was : Bool) (a : Option Addr) (n c : Nat) (w : World) (hn : 1048576 < n) (hn2 : n ≤ 140737488351232) :
    Calls Yba.prog 4 #[.bool was, .slice a n c] w fun e w' => e = .returned (.bool true) ∧ Below w.heap.size w w' := by
  have h3 : (1048576 : Int) < (n : Int) := by omega
  go_enter Yba.func4, Yba.ntmps4
  go_wp2_with fail
  go_ret
  exact ⟨rfl, Below.refl _ _⟩

set_option maxRecDepth 100000 in
set_option maxHeartbeats 2000000 in
theorem script_walk (was : Bool) (a : Option Addr) (c : Nat) (ds : List Bool) (w : World) (hz : BoolRow w a ds) (hn : ds.length ≤ 1048576) :
    Calls Yba.prog 4 #[.bool was, .slice a ds.length c] w fun e w' => e = .returned (.bool true) ∧ Below w.heap.size w w' := by
  have h3 : ¬ (1048576 : Int) < (ds.length : Int) := by omega
  have hmf : ∀ (fn : Fn) (first cap : Array Value) (w : World), (Instr.makeFunc fn first cap).run Yba.prog w = .ok (.func fn first cap) w := fun _ _ _ _ => rfl
  go_enter Yba.func4, Yba.ntmps4
  go_wp2_with fail
  go_loopw [7] (fun i wr => ∃ k : Nat, k ≤ ds.length ∧ i = .int .i64 k ∧ ∃ v, Told w 0 { data := #[] } (.func (.func 11) #[] #[.pointer (some ⟨w.heap.size, 0, none⟩)]) 0 (st was (ds.take k)).1 v (st was (ds.take k)).2 wr) (fun i _ => ds.length - (intOf i).toNat)
  case atStart => exact ⟨0, Nat.zero_le _, rfl, _, told_start w 0 { data := #[] } _ 0 was⟩
  case round =>
    obtain ⟨k, hk, rfl, v, T⟩ := hrel
    by_cases hlt : k < ds.length
    · obtain ⟨d, hd⟩ : ∃ d, ds[k]? = some d := ⟨ds[k], by simp [hlt]⟩
      obtain ⟨b, off, rfl, r0⟩ := hz k d hd
      have q0 := cell_later T.bel r0
      have hs := st_succ was ds k d hd
      have hl := st_len was ds k hk
      have HS : Hid (st was (ds.take (k + 1)) = step (st was (ds.take k)) d) := hs
      clear hs r0
      generalize hst : st was (ds.take k) = s at T hl HS
      clear hst
      go_wp2_with fail
      by_cases hsd : s.1 = d
      · refine (tell_same (w.heap.size + 1) _ _ _ d wr T.cf (hsd ▸ T.cd)).mono ?_
        rintro e w' ⟨rfl, rfl⟩
        have HE : Hid (s.1 = d) := hsd
        clear hsd
        go_wp2_with fail
        go_roundw
        case rel => exact ⟨k + 1, by omega, by go_num, v, by rw [HS.out, step_eq _ _ HE.out]; exact T⟩
        case measure => simp [intOf]; omega
      · refine (tell11 w wr 0 { data := #[] } 0 s.1 d v s.2 hsd T (by omega)).mono ?_
        rintro e w' ⟨rfl, v', T'⟩
        have HE : Hid (s.1 ≠ d) := hsd
        clear hsd
        go_wp2_with fail
        go_roundw
        case rel => exact ⟨k + 1, by omega, by go_num, v', by rw [HS.out, step_ne _ _ HE.out]; exact T'⟩
        case measure => simp [intOf]; omega
    · obtain ⟨w2, hw2⟩ : ∃ w2, w2 = wr := ⟨_, rfl⟩
      subst hw2
      obtain rfl : k = ds.length := by omega
      rw [List.take_length] at T
      obtain ⟨i0, hi, hz0, hz1, hz2⟩ := info_parts Yba.info4
      have hz2' := hz.later T.bel
      go_wp2_with fail
      clear hk hlt
      go_loopw [8, 9, 10] (fun v l i wr => ∃ k : Nat, k ≤ ds.length ∧ i = .int .i64 k ∧ l = .bool (st was (ds.take k)).1 ∧ wr.ownsRow w2.heap.size 4 1 v (st was (ds.take k)).2.length ((st was (ds.take k)).2.map Value.bool) ∧ Below w2.heap.size w2 wr) (fun _ _ i _ => ds.length - (intOf i).toNat)
      case atStart => exact ⟨0, Nat.zero_le _, rfl, rfl, World.ownsRow_nil _ _ _ _, Below.refl _ _⟩
      case round =>
        obtain ⟨k, hk, rfl, rfl, hown, hbel⟩ := hrel
        by_cases hlt : k < ds.length
        · obtain ⟨d, hd⟩ : ∃ d, ds[k]? = some d := ⟨ds[k], by simp [hlt]⟩
          obtain ⟨b, off, rfl, r0⟩ := hz2' k d hd
          have q0 := cell_later hbel r0
          have HS : Hid (st was (ds.take (k + 1)) = step (st was (ds.take k)) d) := st_succ was ds k d hd
          have hl := st_len was ds k hk
          have hsz := hbel.size
          have R1 : Hid (w2.cell? ⟨b, off + k, none⟩ = some (.bool d)) := r0
          clear r0 hd
          generalize hst : st was (ds.take k) = s at hown hl HS ⊢
          clear hst
          obtain ⟨l, xs⟩ := s
          simp only at hown hl ⊢
          obtain ⟨ca, cc, hv, _⟩ := boolRow_of_owns hown
          rw [hv] at hown ⊢
          clear hv
          by_cases hsd : l = d
          · subst hsd
            go_wp2_with fail
            go_roundw
            case rel => exact ⟨k + 1, by omega, by go_num, by rw [HS.out, step_fst], by rw [HS.out, step_eq _ _ rfl]; exact hown, hbel⟩
            case measure => simp [intOf]; omega
          · have hnb : (!(d == l)) = true := by cases d <;> cases l <;> simp_all
            have HE : Hid (¬ l = d) := hsd
            clear hsd
            go_wp2_with (at_builtin; refine wpList_append_lies _ rfl (.tmp 46) (.tmp 51) 22 rfl w2.heap.size 4 i0 _ 1 1 Yba.underlying22 hi hz0 hz1 hz2 rfl (by decide) (.slice ca xs.length cc) xs.length _ (by rfl) (hown.alloc _) ⟨wr.heap.size, 0, none⟩ 1 1 [.bool d] (by rfl) (by rfl) (cell_one_new _ _ _) (by simp [Value.oneCell']) (by decide) (by unfold maxLen; omega) (by omega) (by simp; omega) (wr.heap.size + 1) (by simp) ?_; intro g cg w3 hown3 hgrow3 _ _; have hb3 : Below w2.heap.size w2 w3 := (hbel.alloc hsz _).grown hgrow3 (by simp; omega) (fun k e => (hown.lt k e).1); have q3 := cell_later hb3 R1.out; clear hgrow3)
            go_roundw
            case rel => exact ⟨k + 1, by omega, by go_num, by rw [HS.out, step_fst], by rw [HS.out, step_ne _ _ HE.out]; simpa using hown3, hb3⟩
            case measure => simp [intOf]; omega
        · obtain rfl : k = ds.length := by omega
          rw [List.take_length] at hown ⊢
          obtain ⟨ca, cc, hv, hbr⟩ := boolRow_of_owns hown
          rw [hv]
          clear hv hown
          obtain ⟨la, lc, hlv, hlr⟩ := boolRow_of_owns T.own
          have cl := cell_later hbel T.cl
          rw [hlv] at cl
          have cd := cell_later hbel T.cd
          have hlr' := hlr.later hbel
          have hl := st_len was ds ds.length (Nat.le_refl _)
          rw [List.take_length] at hl
          have hbf : Below w.heap.size w wr := T.bel.trans (hbel.mono T.bel.size)
          clear hlv hlr hi hz0 hz1 hz2
          by_cases h0 : ds.length = 0
          · have hd : decide ((0 : Int) < (ds.length : Int)) = false := by simp [h0]
            clear T
            generalize st was ds = s at *
            go_wp2_with fail
            go_quiet (fail)
            go_wp2_with fail
            refine (aeq_same la ca lc cc s.2 _ (hlr'.later (below_drewN (Below.refl _ _) _)) (hbr.later (below_drewN (Below.refl _ _) _)) (by omega)).mono ?_
            rintro e w' ⟨rfl, m, rfl⟩
            go_wp2_with fail
            go_ret
            exact ⟨by simp, below_drewN hbf _⟩
          · obtain ⟨d, hd⟩ : ∃ d, ds[ds.length - 1]? = some d := ⟨ds[ds.length - 1]'(by omega), by simp⟩
            obtain ⟨b, off, rfl, r0⟩ := hz2' (ds.length - 1) d hd
            have q0 := cell_later hbel r0
            have HL : Hid ((st was ds).1 = d) := st_last was ds d hd
            have b1 : (0 : Int) < (ds.length : Int) := by omega
            have bN : 0 < ds.length := by omega
            have b2 : (0 : Int) ≤ (ds.length : Int) - 1 := by omega
            have b3 : (ds.length : Int) - 1 < (ds.length : Int) := by omega
            have b4 : ((ds.length : Int) - 1).toNat = ds.length - 1 := by omega
            have b5 : IntKind.i64.wrap ((ds.length : Int) - 1) = (ds.length : Int) - 1 := by rw [IntKind.wrap_i64]; omega
            clear T r0 hd
            generalize st was ds = s at *
            rw [HL.out] at cd
            rw [HL.out]
            go_wp2_with fail
            go_quiet (fail)
            go_wp2_with fail
            refine (aeq_same la ca lc cc s.2 _ (hlr'.later (below_drewN (Below.refl _ _) _)) (hbr.later (below_drewN (Below.refl _ _) _)) (by omega)).mono ?_
            rintro e w' ⟨rfl, m, rfl⟩
            go_wp2_with fail
            go_ret
            exact ⟨by simp, below_drewN hbf _⟩
end Go.Proofs.Ybulkdoyw
