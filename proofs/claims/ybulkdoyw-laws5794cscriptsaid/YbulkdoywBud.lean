import Derived.Test.YbulkdoywLocks
import Derived.WalkKit
import Derived.WalkSpells
import Derived.WalkLawsBesides
import Derived.Defers
import Derived.Deep.QuietTactic
import Derived.BigQuiet
import Derived.Laws.EntriesVeiled
import Derived.Laws.LoneSync
namespace Go.Proofs.Ybulkdoyw
open Go.RowKit Go.MuLone

/-- A budget's cells. -/
def bcells (bb : Nat) (limit lk held : Int) (chk : Value) : Array Value :=
  #[.int .i64 limit, .int .i32 lk, .int .u32 0, .int .i64 held, .iface 61 (.pointer (some ⟨bb, 1, none⟩)), .int .u32 0, .int .u32 0, .int .u64 0, .pointer none, .pointer none, chk]

/-- The budget (block N), and nothing below it has turned. -/
structure Bud (w : World) (limit lk held : Int) (chk : Value) (wr : World) : Prop where
  blk : wr.heap[w.heap.size]? = some (.cells (bcells w.heap.size limit lk held chk) 59 (0, 0))
  bel : Below w.heap.size w wr

theorem heap_drewN (w : World) : ∀ m, (w.drewN m).heap = w.heap
  | 0 => rfl
  | m + 1 => by simp [World.drewN]
section
variable {w wr : World} {limit lk held : Int} {chk : Value}
theorem Bud.cell (h : Bud w limit lk held chk wr) (k : Nat) : wr.cell? ⟨w.heap.size, k, none⟩ = (bcells w.heap.size limit lk held chk)[k]? := by simp [World.cell?, h.blk]
theorem Bud.c0 (h : Bud w limit lk held chk wr) : wr.cell? ⟨w.heap.size, 0, none⟩ = some (.int .i64 limit) := by rw [h.cell]; simp [bcells]
theorem Bud.c1 (h : Bud w limit lk held chk wr) : wr.cell? ⟨w.heap.size, 1, none⟩ = some (.int .i32 lk) := by rw [h.cell]; simp [bcells]
theorem Bud.c3 (h : Bud w limit lk held chk wr) : wr.cell? ⟨w.heap.size, 3, none⟩ = some (.int .i64 held) := by rw [h.cell]; simp [bcells]
theorem Bud.c4 (h : Bud w limit lk held chk wr) : wr.cell? ⟨w.heap.size, 4, none⟩ = some (.iface 61 (.pointer (some ⟨w.heap.size, 1, none⟩))) := by rw [h.cell]; simp [bcells]
theorem Bud.c5 (h : Bud w limit lk held chk wr) : wr.cell? ⟨w.heap.size, 5, none⟩ = some (.int .u32 0) := by rw [h.cell]; simp [bcells]
theorem Bud.c6 (h : Bud w limit lk held chk wr) : wr.cell? ⟨w.heap.size, 6, none⟩ = some (.int .u32 0) := by rw [h.cell]; simp [bcells]
theorem Bud.c10 (h : Bud w limit lk held chk wr) : wr.cell? ⟨w.heap.size, 10, none⟩ = some chk := by rw [h.cell]; simp [bcells]
theorem Bud.fz (h : Bud w limit lk held chk wr) (k : Nat) : wr.frozen? ⟨w.heap.size, k, none⟩ = false := by simp [World.frozen?, h.blk]
theorem Bud.setLock (h : Bud w limit lk held chk wr) (x : Int) : Bud w limit x held chk (wr.setCell ⟨w.heap.size, 1, none⟩ (.int .i32 x)) := by
  refine ⟨?_, h.bel.setCell (Nat.le_refl _) _⟩
  have := heap_setCell_same wr w.heap.size 1 _ _ (.int .i32 x) h.blk
  simpa [bcells] using this
theorem Bud.setHeld (h : Bud w limit lk held chk wr) (x : Int) : Bud w limit lk x chk (wr.setCell ⟨w.heap.size, 3, none⟩ (.int .i64 x)) := by
  refine ⟨?_, h.bel.setCell (Nat.le_refl _) _⟩
  have := heap_setCell_same wr w.heap.size 3 _ _ (.int .i64 x) h.blk
  simpa [bcells] using this
theorem Bud.setChk (h : Bud w limit lk held chk wr) (x : Value) : Bud w limit lk held x (wr.setCell ⟨w.heap.size, 10, none⟩ x) := by
  refine ⟨?_, h.bel.setCell (Nat.le_refl _) _⟩
  have := heap_setCell_same wr w.heap.size 10 _ _ x h.blk
  simpa [bcells] using this
theorem Bud.drewN (h : Bud w limit lk held chk wr) (m : Nat) : Bud w limit lk held chk (wr.drewN m) := ⟨by rw [heap_drewN]; exact h.blk, below_drewN h.bel _⟩
end

theorem run_program_step {P : Program} {w : World} {m : Sem Value} {r : Result Value} (k : Program → Sem Value) (hm : m = Sem.program k) (h : Sem.run P (k P) w = r) : Sem.run P m w = r := by subst hm; exact h
theorem bind_pure_step {α β : Type} (x : α) (f : α → Sem β) : Sem.bind (pure x : Sem α) f = f x := rfl
theorem bind_pure_step' {α β : Type} (x : α) (f : α → Sem β) : Sem.bind (Sem.pure x) f = f x := rfl
/-- The conversion that hands a lock's address to a mark: the same address. -/
theorem cvt_mark {a : Addr} {v : Value} {w : World} (hc : w.cell? a = some v) : (convert 73 52 (.pointer (some a))).run Yba.prog w = .ok (.pointer (some a)) w := by
  obtain ⟨e, n, hsh, hlt, hsp⟩ := World.shape?_of_cell? hc
  have hge : ¬ (n ≤ a.off) := by omega
  obtain ⟨i, hi, hz0⟩ := Option.map_eq_some_iff.1 (show (Yba.prog.info? 47).map (fun i => decide (i.size = 0)) = some false from by kernel_rfl)
  have hz : i.size ≠ 0 := by simpa using hz0
  simp only [convert]
  simp [run_underlying Yba.underlying73, run_underlying Yba.underlying52]
  refine run_program_step _ rfl ?_
  simp only [bind_pure_step', Yba.underlying73, bind_pure_step]
  simp [Conv.seenAt, viewAt, cellsIn, sizeOf, typeInfo, run_underlying Yba.underlying52, hi, hz, hsh, hge, Result.andThen]

set_option maxRecDepth 100000 in
set_option maxHeartbeats 400000 in
theorem itry_free (a : Addr) (w : World) (hc : w.cell? a = some (.int .i32 0)) (hz : w.frozen? a = false) :
    Calls Yba.prog 21 #[.pointer (some a)] w fun e w' => e = .returned (.bool true) ∧ w' = w.setCell a (.int .i32 1) := by
  have hd := run_call_mark0 (P := Yba.prog) Yba.func26 (by kernel_rfl) (by kernel_rfl) (by kernel_rfl) .disable (by kernel_rfl)
  have he := run_call_mark0 (P := Yba.prog) Yba.func27 (by kernel_rfl) (by kernel_rfl) (by kernel_rfl) .enable (by kernel_rfl)
  have hq := run_call_marked (P := Yba.prog) Yba.func29 (by kernel_rfl) (by kernel_rfl) (by kernel_rfl) .acquire (by kernel_rfl)
  have hcas := run_call_cas_hit (P := Yba.prog) Yba.func28 (by kernel_rfl) (by kernel_rfl) (by kernel_rfl) .i32 (by kernel_rfl) (y := 1) hc hz
  have hcv := cvt_mark (World.cell?_setCell_same w a (.int .i32 1) hc)
  go_enter Yba.func21, Yba.ntmps21
  go_wp2
  go_ret
  exact ⟨rfl, rfl⟩

set_option maxHeartbeats 400000 in
theorem try_free (b off : Nat) (w : World) (hc : w.cell? ⟨b, off, none⟩ = some (.int .i32 0)) (hz : w.frozen? ⟨b, off, none⟩ = false) :
    Calls Yba.prog 15 #[.pointer (some ⟨b, off, none⟩)] w fun e w' => e = .returned (.bool true) ∧ w' = w.setCell ⟨b, off, none⟩ (.int .i32 1) := by
  go_enter Yba.func15, Yba.ntmps15
  go_wp2_with (go_at_call 21; refine (itry_free ⟨b, off, none⟩ _ hc hz).mono ?_; rintro e w' ⟨rfl, rfl⟩)
  go_ret
  exact ⟨rfl, rfl⟩

set_option maxHeartbeats 400000 in
theorem new12 (limit : Int) (w : World) :
    Calls Yba.prog 12 #[.int .i64 limit] w fun e w' => e = .returned (.pointer (some ⟨w.heap.size, 0, none⟩)) ∧ Bud w limit 0 0 (.int .u64 0) w' := by
  go_enter Yba.func12, Yba.ntmps12
  go_wp2
  go_ret
  exact ⟨rfl, ⟨heap_alloc_new w _, (Below.refl _ w).alloc (Nat.le_refl _) _⟩⟩

theorem tdiv_two_eq (x : Int) : x.tdiv 2 = if 0 ≤ x then x / 2 else if x % 2 = 0 then x / 2 else x / 2 + 1 := by
  rw [Int.tdiv_eq_ediv, show Int.sign 2 = 1 from rfl]
  split <;> split <;> (try split) <;> omega
theorem tdiv_two (limit : Int) (hr : -9223372036854775808 ≤ limit ∧ limit ≤ 9223372036854775807) : -9223372036854775808 ≤ limit.tdiv 2 ∧ limit.tdiv 2 ≤ 9223372036854775807 := by
  rw [tdiv_two_eq]
  split <;> (try split) <;> omega

set_option maxHeartbeats 400000 in
theorem over13 (w wr : World) (limit held : Int) (chk : Value) (hr : -9223372036854775808 ≤ limit ∧ limit ≤ 9223372036854775807) (h : Bud w limit 0 held chk wr) :
    Calls Yba.prog 13 #[.pointer (some ⟨w.heap.size, 0, none⟩)] wr fun e w' => e = .returned (.bool (decide (limit.tdiv 2 < held))) ∧ Bud w limit 0 held chk w' := by
  have h1 := h.setLock 1
  have d0 := h1.c0
  have d3 := h1.c3
  have ht := tdiv_two limit hr
  have hw : IntKind.i64.wrap (limit.tdiv 2) = limit.tdiv 2 := by rw [IntKind.wrap_i64]; omega
  go_enter_defers Yba.func13, Yba.ntmps13
  go_wp2_with (go_at_call 20; refine (lock_free Yba.muLib ⟨w.heap.size, 1, none⟩ _ h.c1 (h.fz 1)).mono ?_; rintro e w' ⟨rfl, rfl⟩)
  go_quiet (fail)
  go_wp2
  have h2 := h1.drewN nq
  refine leaves_cons (f := 16) (args := #[.pointer (some ⟨w.heap.size, 1, none⟩)]) (by simp) (by simp [go_sem]) ?_
  refine (unlock_deferred Yba.muLib ⟨w.heap.size, 1, none⟩ .returning _ h2.c1 (h2.fz 1)).mono ?_
  rintro e u' w'' ⟨rfl, rfl, rfl⟩
  exact ⟨_, results_tmp rfl _ _ _, by simp, h2.setLock 0⟩

theorem bits_and_one (n : Int) : bits .and .i64 n 1 = n % 2 := by
  have h1 : (BitVec.ofInt 64 1).toNat = 2 ^ 1 - 1 := by decide
  have key : (BitVec.ofInt 64 n &&& BitVec.ofInt 64 1).toNat = (n % ((2 ^ 64 : Nat) : Int)).toNat % 2 ^ 1 := by
    rw [BitVec.toNat_and, BitVec.toNat_ofInt, h1, Nat.and_two_pow_sub_one_eq_mod]
  show IntKind.i64.wrap ((BitVec.ofInt 64 n &&& BitVec.ofInt 64 1).toNat : Nat) = n % 2
  rw [key, IntKind.wrap_i64]
  omega

set_option maxHeartbeats 400000 in
theorem half14 (limit : Int) (hr : -9223372036854775808 ≤ limit ∧ limit ≤ 9223372036854775807) (w : World) :
    Calls Yba.prog 14 #[.int .i64 limit] w fun e w' => e = .returned (.int .i64 (limit.tdiv 2)) ∧ w' = w := by
  have hb := bits_and_one limit
  have HT : Hid (limit.tdiv 2 = if 0 ≤ limit then limit / 2 else if limit % 2 = 0 then limit / 2 else limit / 2 + 1) := tdiv_two_eq limit
  go_enter Yba.func14, Yba.ntmps14
  go_wp2
  · rename_i ha hc
    go_ret
    refine ⟨?_, rfl⟩
    have hc' : limit % 2 ≠ 0 := by simpa using hc
    rw [HT.out, if_neg (by omega), if_neg hc']
    rfl
  · rename_i ha hc
    go_ret
    refine ⟨?_, rfl⟩
    have hc' : limit % 2 = 0 := by simpa using hc
    rw [HT.out, if_neg (by omega), if_pos hc']
    rfl
  · rename_i ha
    go_ret
    refine ⟨?_, rfl⟩
    rw [HT.out, if_pos ha]
    rfl

theorem check_arg (p : Value) (h1 : Value → Sem Value) (h2 : Array Value → Sem Value) : Extern.SyncCond.check.match_3 (fun _ => Sem Value) #[p] h1 h2 = h1 p := rfl
/-- copyChecker.check, at first. -/
theorem check_first {a : Addr} {w : World} (hc : w.cell? a = some (.int .u64 0)) (hz : w.frozen? a = false) :
    (callFunc 33 #[.pointer (some a)]).run Yba.prog w = .ok (.value (.tuple #[])) (w.setCell a (.pointer (some a))) := by
  rw [run_callFunc_extern (P := Yba.prog) (e := Extern.SyncCond.check) Yba.func33 (by kernel_rfl) (by kernel_rfl) (by kernel_rfl) (by kernel_rfl)]
  unfold Extern.SyncCond.check
  rw [check_arg]
  simp [Extern.SyncCond.isSelf, Extern.SyncCond.none_, asAddr, hc, hz, run_store Yba.prog w a (.pointer (some a)) .atomic rfl, Result.andThen]
/-- copyChecker.check, behind the first time. -/
theorem check_again {a : Addr} {w : World} (hc : w.cell? a = some (.pointer (some a))) :
    (callFunc 33 #[.pointer (some a)]).run Yba.prog w = .ok (.value (.tuple #[])) w := by
  rw [run_callFunc_extern (P := Yba.prog) (e := Extern.SyncCond.check) Yba.func33 (by kernel_rfl) (by kernel_rfl) (by kernel_rfl) (by kernel_rfl)]
  unfold Extern.SyncCond.check
  rw [check_arg]
  simp [Extern.SyncCond.isSelf, Extern.SyncCond.none_, asAddr, hc, Result.andThen]
/-- Nobody waits: nothing happens. -/
theorem notifyAll_none {b off : Nat} {w : World} (h0 : w.cell? ⟨b, off, none⟩ = some (.int .u32 0)) (h1 : w.cell? ⟨b, off + 1, none⟩ = some (.int .u32 0)) :
    (callFunc 34 #[.pointer (some ⟨b, off, none⟩)]).run Yba.prog w = .ok (.value (.tuple #[])) w := by
  rw [run_callFunc_extern (P := Yba.prog) (e := Extern.SyncCond.notifyAll) Yba.func34 (by kernel_rfl) (by kernel_rfl) (by kernel_rfl) (by kernel_rfl)]
  simp [Extern.SyncCond.notifyAll, Extern.SyncCond.list, Extern.SyncCond.counter, Extern.SyncCond.none_, Addr.add, h0, h1, Result.andThen, show IntKind.u32.wrap 0 = 0 from rfl]
end Go.Proofs.Ybulkdoyw
