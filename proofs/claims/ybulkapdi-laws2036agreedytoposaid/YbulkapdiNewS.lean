import Derived.Test.YbulkapdiExt
namespace Go.Proofs.Ybulkapdi
open Go.RowKit

theorem Yba.info4 : (Yba.prog.info? 4).map (fun i => (i.zero, i.size, i.bytes)) = some (some (.bool false), 1, 1) := by kernel_rfl
theorem Yba.info27 : (Yba.prog.info? 27).map (fun i => (i.zero, i.size, i.bytes)) = some (some (.slice none 0 0), 1, 24) := by kernel_rfl
theorem Yba.info148 : (Yba.prog.info? 148).map (fun i => (i.zero, i.size, i.bytes)) = some (some (.slice none 0 0), 1, 24) := by kernel_rfl

/-- What newOrderSearch makes. -/
structure NewS (w w' : World) (bh bpr m bs bpl blo : Nat) : Prop where
  hs : w'.heap[bs]? = some (.cells #[.pointer (some ⟨bh, 0, none⟩), .slice (some ⟨bpr, 0, none⟩) m m, .slice (some ⟨bpl, 0, none⟩) m m, .slice none 0 0, .slice none 0 0, .slice (some ⟨blo, 0, none⟩) m m] 37 (0, 0))
  hp : w'.heap[bpl]? = some (.cells (Array.replicate m (.bool false)) 4 (0, 0))
  hl : w'.heap[blo]? = some (.cells (Array.replicate m (.int .i64 0)) 3 (0, 0))
  l1 : w.heap.size ≤ bs
  l2 : w.heap.size ≤ bpl
  l3 : w.heap.size ≤ blo
  n1 : bs ≠ bpl
  n2 : bs ≠ blo
  n3 : bpl ≠ blo
  below : Below w.heap.size w w'

theorem three_blocks (w : World) (a b c : Obj) : (((w.alloc a).alloc b).alloc c).heap[w.heap.size]? = some a ∧ (((w.alloc a).alloc b).alloc c).heap[w.heap.size + 1]? = some b ∧ (((w.alloc a).alloc b).alloc c).heap[w.heap.size + 2]? = some c := by
  refine ⟨?_, ?_, ?_⟩
  · show (((w.heap.push a).push b).push c)[w.heap.size]? = _
    simp only [Array.getElem?_push, Array.size_push]
    rw [if_neg (by omega), if_neg (by omega), if_pos trivial]
  · show (((w.heap.push a).push b).push c)[w.heap.size + 1]? = _
    simp only [Array.getElem?_push, Array.size_push]
    rw [if_neg (by omega), if_pos trivial]
  · show (((w.heap.push a).push b).push c)[w.heap.size + 2]? = _
    simp only [Array.getElem?_push, Array.size_push]
    rw [if_pos trivial]

theorem three_below (w : World) (a b c : Obj) : Below w.heap.size w (((w.alloc a).alloc b).alloc c) :=
  (((Below.refl _ _).alloc (Nat.le_refl _) a).alloc (by simp) b).alloc (by simp; omega) c

set_option maxRecDepth 100000 in
set_option maxHeartbeats 1000000 in
theorem newS_any (bh bpr m : Nat) (ao : Option Addr) (cap : Nat) (w : World) (hm : m ≤ 255) (h0 : w.cell? ⟨bh, 0, none⟩ = some (.slice ao m cap)) :
    Calls Yba.prog 5 #[.pointer (some ⟨bh, 0, none⟩), .slice (some ⟨bpr, 0, none⟩) m m] w fun e w' => ∃ bs bpl blo, e = .returned (.pointer (some ⟨bs, 0, none⟩)) ∧ NewS w w' bh bpr m bs bpl blo := by
  have hlt : bh < w.heap.size := World.block_lt_of_cell? _ _ h0
  have mk1 := fun (w : World) => make_run (P := Yba.prog) 35 4 (.bool false) 1 Yba.underlying35 Yba.info4 rfl m (by omega) (by omega) w
  have mk2 := fun (w : World) => make_run (P := Yba.prog) 27 3 (.int .i64 0) 8 Yba.underlying27 Yba.info3 rfl m (by omega) (by omega) w
  go_enter Yba.func5, Yba.ntmps5
  go_wp2_with fail
  go_region
  all_goals go_wp2_with fail
  all_goals go_ret
  all_goals
    first
      | exact ⟨w.heap.size + 2, w.heap.size, w.heap.size + 1, rfl, (three_blocks _ _ _ _).2.2, (three_blocks _ _ _ _).1, (three_blocks _ _ _ _).2.1, by omega, by omega, by omega, by omega, by omega, by omega, (three_below _ _ _ _).drew⟩
      | exact ⟨w.heap.size + 2, w.heap.size + 1, w.heap.size, rfl, (three_blocks _ _ _ _).2.2, (three_blocks _ _ _ _).2.1, (three_blocks _ _ _ _).1, by omega, by omega, by omega, by omega, by omega, by omega, (three_below _ _ _ _).drew⟩
end Go.Proofs.Ybulkapdi
