import Derived.Test.YbulkapdiKRem
namespace Go.Proofs.Ybulkapdi.K
open Go.RowKit
attribute [local go_sem ↓] Go.wp_at_zero Go.wp_at_succ

set_option maxRecDepth 100000 in
set_option maxHeartbeats 1000000 in
theorem prune_nil (g : Nat) (last : Int) (pa ra : Option Addr) (pn pc rn rc : Nat) (w : World) (hc : w.cell? ⟨g, 0, none⟩ = some (.pointer none)) :
    Calls Yba.prog 17 #[.pointer (some ⟨g, 0, none⟩), .agg #[.int .u64 last, .slice pa pn pc], .slice ra rn rc] w fun e w' => e = .returned (.tuple #[.slice ra rn rc, .bool false]) ∧ Below w.heap.size w w' := by
  have hB1 : Below w.heap.size w (w.alloc (.cells #[.int .u64 last, .slice pa pn pc] 54)) := (Below.refl _ _).alloc (Nat.le_refl _) _
  have q := cell_below hB1 hc
  go_enter Yba.func17, Yba.ntmps17
  go_wp2_with (first | (go_at_call 19; refine (vload_nil _ _ _ q).mono ?_; rintro e w' ⟨rfl, rfl⟩))
  refine wp_loop_rounds 1 ?_
  rw [rounds_succ]
  go_wp2_with fail
  go_quiet (fail)
  go_wp2_with fail
  go_ret2
  exact ⟨rfl, ⟨hB1.os, hB1.tape, hB1.output, hB1.size, hB1.block⟩⟩

set_option maxHeartbeats 1000000 in
theorem pruned_zero (b o : Nat) (w : World) :
    Calls Yba.prog 18 #[.pointer (some ⟨b, o, none⟩), .int .i64 0] w fun e w' => e = .returned (.tuple #[]) ∧ w = w' := by
  go_enter Yba.func18, Yba.ntmps18
  go_wp2_with fail
  go_end0
  exact ⟨rfl, rfl⟩

theorem info103 : (Yba.prog.info? 103).map (fun i => (i.zero, i.size, i.bytes)) = some (some (.agg #[.pointer none]), 1, 8) := by kernel_rfl

theorem made19 : madeCells #[Value.pointer none] 19 = Array.replicate 19 (Value.pointer none) := by
  apply Array.toList_inj.1
  rw [toList_madeCells_one, Array.toList_replicate]

theorem make19 (w : World) : (Instr.makeSlice 104 (.int .i64 19) (.int .i64 19)).run Yba.prog w = .ok (.slice (some ⟨w.heap.size, 0, none⟩) 19 19) (w.alloc (.cells (Array.replicate 19 (.pointer none)) 103)) := by
  obtain ⟨i, hi, hz0, hz1, hz2⟩ := info_parts info103
  have := run_make (P := Yba.prog) w 104 103 i (.agg #[.pointer none]) Yba.underlying104 hi hz0 .i64 .i64 19 19 (by decide) (by decide) (by rw [hz2]; decide) (by decide)
  rw [this, hz1]
  rw [show (Value.agg #[.pointer none]).cells = #[.pointer none] from rfl, show (19 : Int).toNat * 1 = 19 from rfl, made19]
  rfl

set_option maxRecDepth 100000 in
set_option maxHeartbeats 1000000 in
theorem newIdx_any (w : World) :
    Calls Yba.prog 7 #[] w fun e w' => e = .returned (.pointer (some ⟨w.heap.size, 0, none⟩)) ∧ IL w' w.heap.size (w.heap.size + 1) [] ∧ Below w.heap.size w w' := by
  have hm := make19
  go_enter Yba.func7, Yba.ntmps7
  go_wp2_with fail
  go_ret
  refine ⟨rfl, ⟨?_, ?_, (fun i n hn => by simp at hn), (fun n hn => by simp at hn), (fun i j n n' hn => by simp at hn)⟩, ((Below.refl _ _).alloc (Nat.le_refl _) _).alloc (by simp) _⟩
  · rw [Below.heap_alloc _ _ _ (by simp), heap_alloc_new]; rfl
  · have := heap_alloc_new (w.alloc (.cells #[.pointer none, .bool false, .bool false, .bool false, .int .u64 0, .pointer none, .slice none 0 0, .slice (some ⟨w.heap.size + 1, 0, none⟩) 19 19] 111)) (.cells (Array.replicate 19 (.pointer none)) 103)
    simpa using this
end Go.Proofs.Ybulkapdi.K
