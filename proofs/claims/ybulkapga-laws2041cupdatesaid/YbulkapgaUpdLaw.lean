import Derived.Test.YbulkapgaUpd
namespace Go.Proofs.Ybulkapga
open Go.RowKit


set_option maxRecDepth 100000 in
set_option maxHeartbeats 400000 in
theorem update_nn (l r : Int) (w : World) :
    Calls Yba.prog 5 #[.bool false, .bool false, .int .i8 l, .int .i8 r] w fun e w' => e = .returned (.bool true) ∧ Below w.heap.size w w' := by
  go_enter Yba.func5, Yba.ntmps5
  go_wp2_with fail
  refine (upd_any w.heap.size none none 0 0 0 0 _ (by simp) (by simp) (by simp) (by simp) (by simp) (by simp) (by simp) (by simp) (Or.inl ⟨rfl, rfl⟩) (Or.inl ⟨rfl, rfl⟩) (by simp) (by simp) w.heap.size (Nat.le_refl _)).mono ?_
  rintro e w' ⟨rfl, hc, hb⟩
  go_wp2_with fail
  go_ret
  exact ⟨rfl, ((Below.refl _ _).alloc (Nat.le_refl _) _).trans hb⟩

set_option maxRecDepth 100000 in
set_option maxHeartbeats 400000 in
theorem update_yn (l r : Int) (w : World) :
    Calls Yba.prog 5 #[.bool true, .bool false, .int .i8 l, .int .i8 r] w fun e w' => e = .returned (.bool true) ∧ Below w.heap.size w w' := by
  by_cases hlt : l < 0
  all_goals
    go_enter Yba.func5, Yba.ntmps5
    go_wp2_with fail
    refine (upd_any w.heap.size (some ⟨w.heap.size + 1, 0, none⟩) none l 0 0 0 _ (by simp) (by simp) (by simp) (by simp) (by simp) (by simp) (by simp) (by simp) (Or.inr ⟨w.heap.size + 1, rfl, by simp, by simp⟩) (Or.inl ⟨rfl, rfl⟩) (by intro g hg; simp at hg; omega) (by simp) w.heap.size (Nat.le_refl _)).mono ?_
    rintro e w' ⟨rfl, hc, hb⟩
    first | simp only [show l < 0 by omega, if_true] at hc | simp only [show ¬ l < 0 by omega, if_false] at hc
    go_wp2_with fail
    go_ret
    refine ⟨rfl, Below.trans ?_ hb⟩
    exact ((Below.refl _ _).alloc (Nat.le_refl _) _).alloc (by simp) _

set_option maxRecDepth 100000 in
set_option maxHeartbeats 400000 in
theorem update_ny (l r : Int) (w : World) :
    Calls Yba.prog 5 #[.bool false, .bool true, .int .i8 l, .int .i8 r] w fun e w' => e = .returned (.bool true) ∧ Below w.heap.size w w' := by
  by_cases hlt : 0 < r
  all_goals
    go_enter Yba.func5, Yba.ntmps5
    go_wp2_with fail
    refine (upd_any w.heap.size none (some ⟨w.heap.size + 1, 0, none⟩) 0 r 0 0 _ (by simp) (by simp) (by simp) (by simp) (by simp) (by simp) (by simp) (by simp) (Or.inl ⟨rfl, rfl⟩) (Or.inr ⟨w.heap.size + 1, rfl, by simp, by simp⟩) (by simp) (by intro g hg; simp at hg; omega) w.heap.size (Nat.le_refl _)).mono ?_
    rintro e w' ⟨rfl, hc, hb⟩
    first | simp only [show 0 < r by omega, if_true] at hc | simp only [show ¬ 0 < r by omega, if_false] at hc
    go_wp2_with fail
    go_ret
    refine ⟨rfl, Below.trans ?_ hb⟩
    exact ((Below.refl _ _).alloc (Nat.le_refl _) _).alloc (by simp) _

theorem blkc {w : World} {g : Nat} {cs : Array Value} {e : TypeId} (h : w.heap[g]? = some (.cells cs e (0, 0))) (i : Nat) : w.cell? ⟨g, i, none⟩ = cs[i]? := by simp [World.cell?, h]
theorem blkf {w : World} {g : Nat} {cs : Array Value} {e : TypeId} (h : w.heap[g]? = some (.cells cs e (0, 0))) (i : Nat) : w.frozen? ⟨g, i, none⟩ = false := by simp [World.frozen?, h]

theorem three_blocks (w : World) (a b c : Obj) : (((w.alloc a).alloc b).alloc c).heap[w.heap.size]? = some a ∧ (((w.alloc a).alloc b).alloc c).heap[w.heap.size + 1]? = some b ∧ (((w.alloc a).alloc b).alloc c).heap[w.heap.size + 1 + 1]? = some c := by
  refine ⟨?_, ?_, ?_⟩
  · show (((w.heap.push a).push b).push c)[w.heap.size]? = _
    simp only [Array.getElem?_push, Array.size_push]
    rw [if_neg (by omega), if_neg (by omega), if_pos trivial]
  · show (((w.heap.push a).push b).push c)[w.heap.size + 1]? = _
    simp only [Array.getElem?_push, Array.size_push]
    rw [if_neg (by omega), if_pos trivial]
  · show (((w.heap.push a).push b).push c)[w.heap.size + 1 + 1]? = _
    simp only [Array.getElem?_push, Array.size_push]
    rw [if_pos trivial]

set_option maxRecDepth 100000 in
set_option maxHeartbeats 400000 in
theorem update_yy (l r : Int) (w : World) :
    Calls Yba.prog 5 #[.bool true, .bool true, .int .i8 l, .int .i8 r] w fun e w' => e = .returned (.bool true) ∧ Below w.heap.size w w' := by
  by_cases hlt : l < r
  all_goals
    go_enter Yba.func5, Yba.ntmps5
    go_wp2_with fail
    obtain ⟨b0, b1, b2⟩ := three_blocks w (.cells #[.pointer (some ⟨w.heap.size + 1, 0, none⟩), .pointer (some ⟨w.heap.size + 1 + 1, 0, none⟩), .int .i32 0, .int .i8 0, .slice none 0 0, .string { data := #[] }, .slice none 0 0, .slice none 0 0, .int .i32 0] 42)
      (.cells #[.pointer none, .pointer none, .int .i32 0, .int .i8 l, .slice none 0 0, .string { data := #[] }, .slice none 0 0, .slice none 0 0, .int .i32 0] 42)
      (.cells #[.pointer none, .pointer none, .int .i32 0, .int .i8 r, .slice none 0 0, .string { data := #[] }, .slice none 0 0, .slice none 0 0, .int .i32 0] 42)
    refine (upd_any w.heap.size (some ⟨w.heap.size + 1, 0, none⟩) (some ⟨w.heap.size + 1 + 1, 0, none⟩) l r 0 0 _ (blkc b0 0) (blkc b0 1) (blkc b0 2) (blkc b0 3) (blkc b0 4) (blkc b0 8) (blkf b0 2) (blkf b0 3) (Or.inr ⟨_, rfl, blkc b1 3, blkc b1 2⟩) (Or.inr ⟨_, rfl, blkc b2 3, blkc b2 2⟩) (by intro g hg; simp at hg; omega) (by intro g hg; simp at hg; omega) w.heap.size (Nat.le_refl _)).mono ?_
    rintro e w' ⟨rfl, hc, hb⟩
    first | simp only [show l < r by omega, if_true] at hc | simp only [show ¬ l < r by omega, if_false] at hc
    go_wp2_with fail
    go_ret
    refine ⟨rfl, Below.trans ?_ hb⟩
    exact (((Below.refl _ _).alloc (Nat.le_refl _) _).alloc (by simp) _).alloc (by simp; omega) _

theorem update_walk (a b : Bool) (l r : Int) (w : World) :
    Calls Yba.prog 5 #[.bool a, .bool b, .int .i8 l, .int .i8 r] w fun e w' => e = .returned (.bool true) ∧ Below w.heap.size w w' := by
  cases a <;> cases b
  · exact update_nn l r w
  · exact update_ny l r w
  · exact update_yn l r w
  · exact update_yy l r w

end Go.Proofs.Ybulkapga
