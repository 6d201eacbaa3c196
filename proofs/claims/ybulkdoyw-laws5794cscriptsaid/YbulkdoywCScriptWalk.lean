import Derived.Test.YbulkdoywGive
namespace Go.Proofs.Ybulkdoyw
open Go.RowKit Go.MuLone

/-- The steps that a slice leads to. -/
def StepRow (w : World) (a : Option Addr) (xs : List (Int × Int)) : Prop := ∀ i x, xs[i]? = some x → (0 ≤ x.1 ∧ x.1 ≤ 255) ∧ (-9223372036854775808 ≤ x.2 ∧ x.2 ≤ 9223372036854775807) ∧
  ∃ b off, a = some ⟨b, off, none⟩ ∧ w.cell? ⟨b, off + i * 2, none⟩ = some (.int .u8 x.1) ∧ w.cell? ⟨b, off + i * 2 + 1, none⟩ = some (.int .i64 x.2)

theorem tmod_bound (x : Int) : -1000 ≤ x.tmod 1001 ∧ x.tmod 1001 ≤ 1000 := by
  have h1 := Int.tmod_lt_of_pos x (show (0 : Int) < 1001 by decide)
  have h2 := Int.lt_tmod_of_pos x (show (0 : Int) < 1001 by decide)
  omega

set_option maxHeartbeats 400000 in
theorem cscript_big (limit : Int) (a : Option Addr) (n c : Nat) (w : World) (hn : 4096 < n) :
    Calls Yba.prog 6 #[.int .i64 limit, .slice a n c] w fun e w' => e = .returned (.bool true) ∧ Below w.heap.size w w' := by
  have h3 : (4096 : Int) < (n : Int) := by omega
  go_enter Yba.func6, Yba.ntmps6
  go_wp2_with fail
  go_ret
  exact ⟨rfl, Below.refl _ _⟩

set_option maxRecDepth 100000 in
set_option maxHeartbeats 2000000 in
theorem cscript_walk (limit : Int) (hr : -9223372036854775808 ≤ limit ∧ limit ≤ 9223372036854775807) (a : Option Addr) (c : Nat) (xs : List (Int × Int)) (w : World) (hz : StepRow w a xs) (hn : xs.length ≤ 4096) :
    Calls Yba.prog 6 #[.int .i64 limit, .slice a xs.length c] w fun e w' => e = .returned (.bool true) ∧ Below w.heap.size w w' := by
  have h3 : ¬ (4096 : Int) < (xs.length : Int) := by omega
  go_enter Yba.func6, Yba.ntmps6
  go_wp2_with fail
  refine (new12 limit w).mono ?_
  rintro e w1 ⟨rfl, h1⟩
  go_wp2_with fail
  go_loopw [6, 17] (fun h i wr => ∃ (k : Nat) (held : Int) (chk : Value), k ≤ xs.length ∧ i = .int .i64 k ∧ h = .int .i64 held ∧ (-1000 * (k : Int) ≤ held ∧ held ≤ 1000 * k) ∧ ChkOk w.heap.size chk ∧ Bud w limit 0 held chk wr) (fun _ i _ => xs.length - (intOf i).toNat)
  case atStart => exact ⟨0, 0, _, Nat.zero_le _, rfl, rfl, by omega, .inl rfl, h1⟩
  case round =>
    obtain ⟨k, held, chk, hk, rfl, rfl, hb, hck, hB⟩ := hrel
    by_cases hlt : k < xs.length
    · obtain ⟨x, hx⟩ : ∃ x, xs[k]? = some x := ⟨xs[k], by simp [hlt]⟩
      obtain ⟨⟨o0, o1⟩, ⟨s0, s1⟩, b, off, rfl, r0, r1⟩ := hz k x hx
      have q0 := cell_later hB.bel r0
      have q1 := cell_later hB.bel r1
      clear hx r0 r1
      obtain ⟨op, size⟩ := x
      simp only at o0 o1 s0 s1 q0 q1
      have ht := tmod_bound size
      go_wp2_with fail
      · clear q0 q1 s0 s1
        generalize size.tmod 1001 = s at *
        refine (take17 w wr limit held s chk (by omega) hB).mono ?_
        rintro e w2 ⟨rfl, hB2⟩
        by_cases hok : held + s ≤ limit
        · rw [if_pos hok] at hB2
          go_wp2_with fail
          go_roundw
          case rel => exact ⟨k + 1, held + s, chk, by omega, by go_num, rfl, by omega, hck, hB2⟩
          case measure => simp [intOf]; omega
        · rw [if_neg hok] at hB2
          have hok2 : limit < held + s := by omega
          go_wp2_with fail
          go_roundw
          case rel => exact ⟨k + 1, held, chk, by omega, by go_num, rfl, by omega, hck, hB2⟩
          case measure => simp [intOf]; omega
      · clear q0 q1 s0 s1
        generalize size.tmod 1001 = s at *
        refine (give18 w wr limit held s chk (by omega) hck hB).mono ?_
        rintro e w2 ⟨rfl, chk', hck', hB2⟩
        go_wp2_with fail
        go_roundw
        case rel => exact ⟨k + 1, held - s, chk', by omega, by go_num, rfl, by omega, hck', hB2⟩
        case measure => simp [intOf]; omega
      · clear q0 q1 s0 s1
        refine (over13 w wr limit held chk hr hB).mono ?_
        rintro e w2 ⟨rfl, hB2⟩
        go_wp2_with fail
        refine (half14 limit hr _).mono ?_
        rintro e w3 ⟨rfl, rfl⟩
        go_wp2_with fail
        go_roundw
        case rel => exact ⟨k + 1, held, chk, by omega, by go_num, rfl, by omega, hck, hB2⟩
        case measure => simp [intOf]; omega
    · obtain rfl : k = xs.length := by omega
      go_wp2_with fail
      refine (over13 w wr limit held chk hr hB).mono ?_
      rintro e w2 ⟨rfl, hB2⟩
      go_wp2_with fail
      refine (half14 limit hr _).mono ?_
      rintro e w3 ⟨rfl, rfl⟩
      have d0 := hB2.c0
      have d3 := hB2.c3
      go_wp2_with fail
      refine (try_free w.heap.size 1 _ hB2.c1 (hB2.fz 1)).mono ?_
      rintro e w4 ⟨rfl, rfl⟩
      have h5 := hB2.setLock 1
      go_wp2_with fail
      refine (unlock_held Yba.muLib ⟨w.heap.size, 1, none⟩ _ h5.c1 (h5.fz 1)).mono ?_
      rintro e w4 ⟨rfl, rfl⟩
      go_wp2_with fail
      go_ret
      exact ⟨rfl, (h5.setLock 0).bel⟩
end Go.Proofs.Ybulkdoyw
