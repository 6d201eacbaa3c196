import Derived.Test.YbulkdoxuArr
import Derived.Deep.MidRow
import Derived.LaidEql
import Derived.Deep.DeepCutAuto
namespace Go.Proofs.Ybulkdoxu
open Go.RowKit

theorem hasPayload_any (b : Nat) (x : Int) (w : World) (h : w.cell? ⟨b, 3, none⟩ = some (.int .u8 x)) :
    Calls Yba.prog 5 #[.pointer (some ⟨b, 0, none⟩)] w fun e w' => e = .returned (.bool (bits .and .u8 x 16 != 0)) ∧ w' = w := by
  go_enter Yba.func5, Yba.ntmps5
  go_wp2
  go_ret
  exact ⟨rfl, rfl⟩
theorem hasField_any (b : Nat) (x : Int) (w : World) (h : w.cell? ⟨b, 3, none⟩ = some (.int .u8 x)) :
    Calls Yba.prog 6 #[.pointer (some ⟨b, 0, none⟩)] w fun e w' => e = .returned (.bool (bits .and .u8 x 32 != 0)) ∧ w' = w := by
  go_enter Yba.func6, Yba.ntmps6
  go_wp2
  go_ret
  exact ⟨rfl, rfl⟩

/-- The slice of an array of 188 bytes from n on. -/
theorem slice_from (b n : Nat) (hn : n < 188) (w : World) : (Instr.sliceAt 23 (.pointer (some ⟨b, 0, none⟩)) (some (.int .i64 (n : Int))) none none).run Yba.prog w = .ok (.slice (some ⟨b, n, none⟩) (188 - n) (188 - n)) w := by
  have hl : Yba.prog.arrayLen 23 = 188 := by kernel_rfl
  have he : Yba.prog.elem 23 = 5 := by kernel_rfl
  have h := run_sliceAt_array_l (P := Yba.prog) w 23 ⟨b, 0, none⟩ (by rw [hl, he]; exact Yba.underlying23) .i64 (n : Int) (by omega) (by rw [hl]; omega)
  rw [h, he, Yba.sizeOf5, hl]
  have e1 : ¬ (188 = n) := by omega
  simp [slicedAt, e1, Result.andThen, Addr.add]
  omega

/-- '&x != &x' -/
theorem equalIn_self (w : World) (d : Nat) (a : Addr) : (Op.equalIn (d + 1) 27 (.pointer (some a)) (.pointer (some a))).run Yba.prog w = .ok true w := by
  simp [Op.equalIn, run_underlying Yba.underlying27, Yba.sizeOf5, run_sameAddr_same, Result.andThen]
theorem neq_self (w : World) (a : Addr) : (binOp .neq 27 (.pointer (some a)) (.pointer (some a))).run Yba.prog w = .ok (.bool false) w := by
  simp only [binOp]
  simp [Op.equal, Op.maxDepth, equalIn_self w 9999 a]

/-- No payload: nil. -/
theorem payload_none (b : Nat) (x : Int) (w : World) (h3 : w.cell? ⟨b, 3, none⟩ = some (.int .u8 x)) (h1 : (bits .and .u8 x 16 != 0) = false) :
    Calls Yba.prog 4 #[.pointer (some ⟨b, 0, none⟩)] w fun e w' => e = .returned (.slice none 0 0) ∧ w' = w := by
  go_enter Yba.func4, Yba.ntmps4
  go_wp2_with (first | (go_at_call 5; refine (hasPayload_any _ _ _ h3).mono ?_; rintro e w' ⟨rfl, rfl⟩) | (go_at_call 6; refine (hasField_any _ _ _ h3).mono ?_; rintro e w' ⟨rfl, rfl⟩))
  go_ret
  exact ⟨rfl, rfl⟩

/-- A payload, no adaptation field: from 4 on. -/
theorem payload_four (b : Nat) (x : Int) (w : World) (h3 : w.cell? ⟨b, 3, none⟩ = some (.int .u8 x)) (h1 : (bits .and .u8 x 16 != 0) = true) (h2 : (bits .and .u8 x 32 != 0) = false) :
    Calls Yba.prog 4 #[.pointer (some ⟨b, 0, none⟩)] w fun e w' => e = .returned (.slice (some ⟨b, 4, none⟩) 184 184) ∧ w' = w := by
  have hs := fun w => slice_from b 4 (by omega) w
  go_enter Yba.func4, Yba.ntmps4
  go_wp2_with (first | (go_at_call 5; refine (hasPayload_any _ _ _ h3).mono ?_; rintro e w' ⟨rfl, rfl⟩) | (go_at_call 6; refine (hasField_any _ _ _ h3).mono ?_; rintro e w' ⟨rfl, rfl⟩))
  go_ret
  exact ⟨rfl, rfl⟩

/-- A payload behind an adaptation field that ends within the packet. -/
theorem payload_in' (b n : Nat) (x : Int) (w : World) (h3 : w.cell? ⟨b, 3, none⟩ = some (.int .u8 x)) (h4 : w.cell? ⟨b, 4, none⟩ = some (.int .u8 (n : Int))) (h1 : (bits .and .u8 x 16 != 0) = true) (h2 : (bits .and .u8 x 32 != 0) = true) (hn : n < 183) :
    Calls Yba.prog 4 #[.pointer (some ⟨b, 0, none⟩)] w fun e w' => e = .returned (.slice (some ⟨b, 5 + n, none⟩) (188 - (5 + n)) (188 - (5 + n))) ∧ w' = w := by
  have hs := fun w => slice_from b (5 + n) (by omega) w
  have e5 : ((5 + n : Nat) : Int) = 4 + (1 + (n : Int)) := by omega
  rw [e5] at hs
  have hle : (4 + (1 + (n : Int))) ≤ 188 := by omega
  clear e5
  go_enter Yba.func4, Yba.ntmps4
  go_wp2_with (first | (go_at_call 5; refine (hasPayload_any _ _ _ h3).mono ?_; rintro e w' ⟨rfl, rfl⟩) | (go_at_call 6; refine (hasField_any _ _ _ h3).mono ?_; rintro e w' ⟨rfl, rfl⟩))
  go_ret
  exact ⟨rfl, rfl⟩

theorem payload_in (b n L : Nat) (x : Int) (w : World) (h3 : w.cell? ⟨b, 3, none⟩ = some (.int .u8 x)) (h4 : w.cell? ⟨b, 4, none⟩ = some (.int .u8 (n : Int))) (h1 : (bits .and .u8 x 16 != 0) = true) (h2 : (bits .and .u8 x 32 != 0) = true) (hn : n < 183) (hL1 : L + (5 + n) ≤ 188) (hL2 : 188 ≤ L + (5 + n)) :
    Calls Yba.prog 4 #[.pointer (some ⟨b, 0, none⟩)] w fun e w' => e = .returned (.slice (some ⟨b, 5 + n, none⟩) L L) ∧ w' = w := by
  obtain rfl : L = 188 - (5 + n) := by omega
  exact payload_in' b n x w h3 h4 h1 h2 hn

/-- A payload behind an adaptation field that fills the packet: empty, not nil. -/
theorem payload_out (b n : Nat) (x : Int) (w : World) (h3 : w.cell? ⟨b, 3, none⟩ = some (.int .u8 x)) (h4 : w.cell? ⟨b, 4, none⟩ = some (.int .u8 (n : Int))) (h1 : (bits .and .u8 x 16 != 0) = true) (h2 : (bits .and .u8 x 32 != 0) = true) (hn : 183 ≤ n) (hn2 : n ≤ 255) :
    Calls Yba.prog 4 #[.pointer (some ⟨b, 0, none⟩)] w fun e w' => e = .returned (.slice (some ⟨b, 0, none⟩) 0 0) ∧ w' = w := by
  by_cases h183 : n = 183
  · subst h183
    go_enter Yba.func4, Yba.ntmps4
    go_wp2_with (first | (go_at_call 5; refine (hasPayload_any _ _ _ h3).mono ?_; rintro e w' ⟨rfl, rfl⟩) | (go_at_call 6; refine (hasField_any _ _ _ h3).mono ?_; rintro e w' ⟨rfl, rfl⟩))
    go_ret
    exact ⟨rfl, rfl⟩
  · have hle : 188 < (4 + (1 + (n : Int))) := by omega
    go_enter Yba.func4, Yba.ntmps4
    go_wp2_with (first | (go_at_call 5; refine (hasPayload_any _ _ _ h3).mono ?_; rintro e w' ⟨rfl, rfl⟩) | (go_at_call 6; refine (hasField_any _ _ _ h3).mono ?_; rintro e w' ⟨rfl, rfl⟩))
    go_ret
    exact ⟨rfl, rfl⟩
end Go.Proofs.Ybulkdoxu
