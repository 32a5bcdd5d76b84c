import Derived.Test.YbulkaphqRows
import Derived.WalkKit
import Derived.WalkSpells
import Derived.WalkLawsBesides
import Derived.Handy
import Derived.Deep.QuietTactic
import Derived.BigQuiet
namespace Go.Proofs.Ybulkaphq
open Go.RowKit

theorem hide {p : Prop} (h : p) : Hid p := h

theorem single_0 (ao : Option Addr) (cap : Nat) (w : World) :
    Calls Yba.prog 5 #[.slice ao 0 cap] w fun e w' => e = .returned (.tuple #[.string { data := #[] }, .bool true]) ∧ w = w' := by
  go_enter Yba.func5, Yba.ntmps5
  go_wp2_with fail
  go_ret2
  exact ⟨rfl, rfl⟩

theorem single_1 (b off cap : Nat) (s : ByteArray) (w : World) (hc : w.cell? ⟨b, off, none⟩ = some (.string s)) :
    Calls Yba.prog 5 #[.slice (some ⟨b, off, none⟩) 1 cap] w fun e w' => e = .returned (.tuple #[.string s, .bool true]) ∧ w = w' := by
  go_enter Yba.func5, Yba.ntmps5
  go_wp2_with fail
  go_ret2
  exact ⟨rfl, rfl⟩

theorem single_2 (ao : Option Addr) (n cap : Nat) (w : World) (hn : 2 ≤ n) :
    Calls Yba.prog 5 #[.slice ao n cap] w fun e w' => e = .returned (.tuple #[.string { data := #[] }, .bool false]) ∧ w = w' := by
  have h0 : ((n : Int) == 0) = false := by simp; omega
  have h1 : ((n : Int) == 1) = false := by simp; omega
  have h0' : ¬ n = 0 := by omega
  have h1' : ¬ n = 1 := by omega
  go_enter Yba.func5, Yba.ntmps5
  go_wp2_with fail
  go_ret2
  exact ⟨rfl, rfl⟩

theorem exact_long (ao : Option Addr) (len cap : Nat) (w : World) (hl : 1024 < len) :
    Calls Yba.prog 3 #[.slice ao len cap] w fun e w' => e = .returned (.bool true) ∧ Below w.heap.size w w' := by
  go_enter Yba.func3, Yba.ntmps3
  go_wp2_with fail
  go_ret
  exact ⟨rfl, Below.refl _ _⟩

set_option maxRecDepth 100000 in
theorem exact_0 (ao : Option Addr) (cap : Nat) (w : World) :
    Calls Yba.prog 3 #[.slice ao 0 cap] w fun e w' => e = .returned (.bool true) ∧ Below w.heap.size w w' := by
  go_enter Yba.func3, Yba.ntmps3
  go_wp2_with fail
  refine (single_0 ao cap w).mono ?_
  rintro e w' ⟨rfl, rfl⟩
  go_wp2_with fail
  refine wp_loop_rounds 1 ?_
  rw [rounds_succ]
  go_wp2_with fail
  go_ret
  exact ⟨rfl, Below.refl _ _⟩

set_option maxRecDepth 100000 in
theorem exact_1 (b off cap : Nat) (s : ByteArray) (w : World) (hc : w.cell? ⟨b, off, none⟩ = some (.string s)) :
    Calls Yba.prog 3 #[.slice (some ⟨b, off, none⟩) 1 cap] w fun e w' => e = .returned (.bool true) ∧ Below w.heap.size w w' := by
  go_enter Yba.func3, Yba.ntmps3
  go_wp2_with fail
  refine (single_1 b off cap s w hc).mono ?_
  rintro e w' ⟨rfl, rfl⟩
  go_wp2_with fail
  refine wp_loop_rounds 2 ?_
  rw [rounds_succ]
  go_wp2_with fail
  rw [rounds_succ]
  go_wp2_with fail
  go_ret
  exact ⟨rfl, Below.refl _ _⟩

set_option maxRecDepth 100000 in
set_option maxHeartbeats 400000 in
theorem exact_2 (b off n cap : Nat) (s : ByteArray) (w : World) (hc : w.cell? ⟨b, off, none⟩ = some (.string s)) (hn : 2 ≤ n) (hl : n ≤ 1024) :
    Calls Yba.prog 3 #[.slice (some ⟨b, off, none⟩) n cap] w fun e w' => e = .returned (.bool true) ∧ Below w.heap.size w w' := by
  have hl1 : ¬ (1024 : Int) < (n : Int) := by omega
  go_enter Yba.func3, Yba.ntmps3
  go_wp2_with fail
  refine (single_2 (some ⟨b, off, none⟩) n cap w hn).mono ?_
  rintro e w' ⟨rfl, rfl⟩
  go_wp2_with fail
  go_loopw [5, 6, 7] (fun x f i wr => ∃ k : Nat, k ≤ n ∧ x = .int .i64 k ∧ i = .int .i64 k ∧ (∃ t, f = .string t) ∧ w = wr) (fun _ _ i _ => n - (intOf i).toNat)
  case atStart => exact ⟨0, by omega, rfl, rfl, ⟨_, rfl⟩, rfl⟩
  case round =>
    obtain ⟨k, hk, rfl, rfl, ⟨t, rfl⟩, rfl⟩ := hrel
    by_cases hlt : k < n
    · have hlt' : (k : Int) < (n : Int) := by omega
      cases k with
      | zero =>
        go_wp2_with fail
        go_roundw
        case rel => exact ⟨1, by omega, by go_num, by go_num, ⟨_, rfl⟩, trivial⟩
        case measure => simp [intOf]; omega
      | succ k =>
        have h0 : (((k + 1 : Nat) : Int) == 0) = false := by simp; omega
        generalize hK : k + 1 = K at hlt hlt' hk h0 ⊢
        clear hK
        have h0' : ¬ K = 0 := by simpa using h0
        go_wp2_with fail
        go_roundw
        case rel => exact ⟨K + 1, by omega, by go_num, by go_num, ⟨_, rfl⟩, trivial⟩
        case measure => simp [intOf]; omega
    · have : k = n := by omega
      subst this
      have h0 : ((k : Int) == 0) = false := by simp; omega
      have h1 : ((k : Int) == 1) = false := by simp; omega
      have h0' : ¬ k = 0 := by omega
      have h1' : ¬ k = 1 := by omega
      go_wp2_with fail
      go_ret
      exact ⟨rfl, Below.refl _ _⟩

end Go.Proofs.Ybulkaphq
