/- LawS2036BUnlinks: the atomics' pointers. -/
import Derived.Test.YbulkapdiRows
import Derived.WalkKit
import Derived.WalkSpells
import Derived.WalkLawsBesides
import Derived.Handy
import Derived.Lib.Builder
import Derived.Deep.QuietTactic
import Derived.BigQuiet
namespace Go.Proofs.Ybulkapdi.K
open Go.RowKit

theorem hide {p : Prop} (h : p) : Hid p := h
theorem unhide {p : Prop} (h : Hid p) : p := h

theorem ext21 : Extern.find Yba.f21 = some (Extern.Atomic.loadT .ptr) := rfl
theorem ext35 : Extern.find Yba.f35 = some Extern.Atomic.storeT := rfl

theorem run_loadP {b o : Nat} {p : Option Addr} {w : World} (hc : w.cell? ⟨b, o, none⟩ = some (.pointer p)) : (callFunc 21 #[.pointer (some ⟨b, o, none⟩)]).run Yba.prog w = .ok (.value (.pointer p)) w := by
  rw [run_callFunc_extern Yba.func21 (by kernel_rfl) rfl (by kernel_rfl) ext21]
  change (Sem.run Yba.prog (do Extern.Atomic.read .ptr (← asAddr (.pointer (some ⟨b, o, none⟩)))) w).andThen _ = _
  simp [Extern.Atomic.read, asAddr, hc, Result.andThen]

theorem run_storeP {b o : Nat} {p : Option Addr} {u : Value} {w : World} (hc : w.cell? ⟨b, o, none⟩ = some u) (hz : w.frozen? ⟨b, o, none⟩ = false) :
    (callFunc 35 #[.pointer (some ⟨b, o, none⟩), .pointer p]).run Yba.prog w = .ok (.value (.tuple #[])) (w.setCell ⟨b, o, none⟩ (.pointer p)) := by
  rw [run_callFunc_extern Yba.func35 (by kernel_rfl) rfl (by kernel_rfl) ext35]
  change (Sem.run Yba.prog (do
    store (← asAddr (.pointer (some ⟨b, o, none⟩))) (.pointer p) .atomic
    pure Extern.Atomic.none_) w).andThen _ = _
  simp [asAddr, hc, hz, run_store Yba.prog w ⟨b, o, none⟩ (.pointer p) .atomic rfl, Result.andThen, Extern.Atomic.none_]

/-- A pointer to a node, or nil. -/
def NP (w : World) (p : Option Addr) : Prop := p = none ∨ ∃ g, p = some ⟨g, 0, none⟩ ∧ w.shape? g = some (106, 8)

theorem size106 : (Yba.prog.info? 106).map (fun i => i.size) = some 8 := by kernel_rfl
theorem info106 : ∃ j, Yba.prog.info? 106 = some j ∧ j.size ≠ 0 := by
  obtain ⟨j, hj, hs⟩ := Option.map_eq_some_iff.1 size106
  exact ⟨j, hj, by rw [hs]; decide⟩

theorem run_from {w : World} {p : Option Addr} (h : NP w p) : (convert 74 92 (.pointer p)).run Yba.prog w = .ok (.pointer p) w := by
  rcases h with rfl | ⟨g, rfl, hs⟩
  · simp [convert, run_underlying Yba.underlying74, run_underlying Yba.underlying92, Conv.unsafePointer]
  · obtain ⟨j, hj, _⟩ := info106
    exact Lib.run_from_unsafe w ⟨g, 0, none⟩ Yba.underlying74 Yba.underlying92 hj hs (by kernel_rfl)

theorem run_to {w : World} {p : Option Addr} (h : NP w p) : (convert 92 74 (.pointer p)).run Yba.prog w = .ok (.pointer p) w := by
  rcases h with rfl | ⟨g, rfl, hs⟩
  · simp [convert, run_underlying Yba.underlying74, run_underlying Yba.underlying92, Conv.unsafePointer]
  · obtain ⟨j, hj, hz⟩ := info106
    exact Lib.run_to_unsafe w ⟨g, 0, none⟩ Yba.underlying92 Yba.underlying74 hj hz hs (show 0 < 8 by decide)

set_option maxHeartbeats 400000 in
theorem load_any (b o : Nat) (p : Option Addr) (w : World) (hc : w.cell? ⟨b, o, none⟩ = some (.pointer p)) (hp : NP w p) :
    Calls Yba.prog 12 #[.pointer (some ⟨b, o, none⟩)] w fun e w' => e = .returned (.pointer p) ∧ w = w' := by
  have h1 := run_loadP hc
  have h2 := run_from hp
  go_enter Yba.func12, Yba.ntmps12
  go_wp2_with fail
  go_ret
  exact ⟨rfl, rfl⟩

set_option maxHeartbeats 400000 in
theorem store_any (b o : Nat) (p : Option Addr) (u : Value) (w : World) (hc : w.cell? ⟨b, o, none⟩ = some u) (hz : w.frozen? ⟨b, o, none⟩ = false) (hp : NP w p) :
    Calls Yba.prog 27 #[.pointer (some ⟨b, o, none⟩), .pointer p] w fun e w' => e = .returned (.tuple #[]) ∧ w' = w.setCell ⟨b, o, none⟩ (.pointer p) := by
  have h1 := run_storeP (p := p) hc hz
  have h2 := run_to hp
  go_enter Yba.func27, Yba.ntmps27
  go_wp2_with fail
  go_end0
  exact ⟨rfl, rfl⟩

set_option maxHeartbeats 400000 in
theorem vload_nil (b o : Nat) (w : World) (hc : w.cell? ⟨b, o, none⟩ = some (.pointer none)) :
    Calls Yba.prog 19 #[.pointer (some ⟨b, o, none⟩)] w fun e w' => e = .returned (.pointer none) ∧ w = w' := by
  have h1 := run_loadP hc
  have h2 : (convert 74 95 (.pointer none)).run Yba.prog w = .ok (.pointer none) w := by
    simp [convert, run_underlying Yba.underlying74, run_underlying Yba.underlying95, Conv.unsafePointer]
  go_enter Yba.func19, Yba.ntmps19
  go_wp2_with fail
  go_ret
  exact ⟨rfl, rfl⟩

set_option maxHeartbeats 400000 in
theorem link_zero (b o : Nat) (w : World) :
    Calls Yba.prog 24 #[.pointer (some ⟨b, o, none⟩), .int .i64 0] w fun e w' => e = .returned (.pointer (some ⟨b, o + 5, none⟩)) ∧ w = w' := by
  go_enter Yba.func24, Yba.ntmps24
  go_wp2_with fail
  go_ret
  exact ⟨rfl, rfl⟩

set_option maxHeartbeats 400000 in
theorem link_up (b bu l : Nat) (w : World) (h0 : 0 < l) (h19 : l ≤ 19) (hu : w.cell? ⟨b, 7, none⟩ = some (.slice (some ⟨bu, 0, none⟩) 19 19)) :
    Calls Yba.prog 24 #[.pointer (some ⟨b, 0, none⟩), .int .i64 l] w fun e w' => e = .returned (.pointer (some ⟨bu, l - 1, none⟩)) ∧ w = w' := by
  have hl : ((l : Int) == 0) = false := by simp; omega
  have e1 : ((l : Int) - 1).toNat = l - 1 := by omega
  go_enter Yba.func24, Yba.ntmps24
  go_wp2_with fail
  go_ret
  exact ⟨rfl, rfl⟩

set_option maxHeartbeats 400000 in
theorem height_one (b : Nat) (w : World) (hu : w.cell? ⟨b, 7, none⟩ = some (.slice none 0 0)) :
    Calls Yba.prog 26 #[.pointer (some ⟨b, 0, none⟩)] w fun e w' => e = .returned (.int .i64 1) ∧ w = w' := by
  go_enter Yba.func26, Yba.ntmps26
  go_wp2_with fail
  go_ret
  exact ⟨rfl, rfl⟩

end Go.Proofs.Ybulkapdi.K
