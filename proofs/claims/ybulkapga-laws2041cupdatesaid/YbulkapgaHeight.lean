import Derived.Test.YbulkapgaRows
import Derived.WalkKit
import Derived.WalkSpells
import Derived.WalkLawsBesides
import Derived.Handy
import Derived.Deep.QuietTactic
import Derived.BigQuiet
import Derived.Deep.RegionHeld3
import Derived.Deep.DrawnRows
namespace Go.Proofs.Ybulkapga
open Go.RowKit

theorem height_nil (w : World) : Calls Yba.prog 10 #[.pointer none] w fun e w' => e = .returned (.int .i8 0) ∧ w = w' := by
  go_enter Yba.func10, Yba.ntmps10
  go_wp2_with fail
  go_ret
  exact ⟨rfl, rfl⟩

theorem height_some (g : Nat) (h : Int) (w : World) (hc : w.cell? ⟨g, 3, none⟩ = some (.int .i8 h)) : Calls Yba.prog 10 #[.pointer (some ⟨g, 0, none⟩)] w fun e w' => e = .returned (.int .i8 h) ∧ w = w' := by
  go_enter Yba.func10, Yba.ntmps10
  go_wp2_with fail
  go_ret
  exact ⟨rfl, rfl⟩

set_option maxRecDepth 100000 in
set_option maxHeartbeats 1000000 in
theorem exact_walk (a0 : Bool) (a1 a2 : Int) (w : World) : Calls Yba.prog 4 #[.bool a0, .int .i8 a1, .int .i32 a2] w fun e w' => e = .returned (.bool true) ∧ Grown w w' := by
  cases a0
  · go_enter Yba.func4, Yba.ntmps4
    go_wp2_with fail
    refine (height_some w.heap.size a1 _ (by simp)).mono ?_
    rintro e w' ⟨rfl, rfl⟩
    go_wp2_with fail
    go_ret
    exact ⟨rfl, (Grown.refl _).alloc _ _⟩
  · go_enter Yba.func4, Yba.ntmps4
    go_wp2_with fail
    refine (height_nil _).mono ?_
    rintro e w' ⟨rfl, rfl⟩
    go_wp2_with fail
    go_ret
    exact ⟨rfl, Grown.refl _⟩

end Go.Proofs.Ybulkapga
