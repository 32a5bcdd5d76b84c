import Derived.Test.YbulkapdiKPre
import Derived.Deep.RegionWith
import Derived.Deep.RegionHeld3
import Derived.Deep.DrawnRows
namespace Go.Proofs.Ybulkapdi.K
open Go.RowKit

set_option maxHeartbeats 400000 in
theorem skey_any (g : Nat) (kv : Value) (kb kn kc : Nat) (p : Int) (w : World) (hkv : kv = .slice (some ⟨kb, 0, none⟩) kn kc) (h6 : w.cell? ⟨g, 6, none⟩ = some kv) (h4 : w.cell? ⟨g, 4, none⟩ = some (.int .u64 p)) :
    Calls Yba.prog 15 #[.pointer (some ⟨g, 0, none⟩)] w fun e w' => e = .returned (.agg #[kv, .int .u64 p]) ∧ Below w.heap.size w w' := by
  subst hkv
  have hb := World.block_lt_of_cell? _ _ h6
  go_enter Yba.func15, Yba.ntmps15
  go_wp2_with fail
  go_region
  all_goals go_wp2_with fail
  all_goals exact bodyPost_ret (v := .agg #[.slice (some ⟨kb, 0, none⟩) kn kc, .int .u64 p]) (by simp [results, Yba.results15, go_sem]) rfl ⟨rfl, ((Below.refl _ _).alloc (Nat.le_refl _) _).drew⟩

/-- Which of two keys comes first: by the number, then by the bytes. -/
def ltK (l1 l2 : List UInt8) : Bool := if pre l1 = pre l2 then Op.bytesLess l1 l2 else decide (pre l1 < pre l2)

set_option maxHeartbeats 400000 in
theorem before_ne (v1 v2 : Value) (a1 a2 : Option Addr) (n1 n2 c1 c2 : Nat) (p1 p2 : Int) (w : World) (e1 : v1 = .slice a1 n1 c1) (e2 : v2 = .slice a2 n2 c2) (hb : (p1 != p2) = true) :
    Calls Yba.prog 34 #[.agg #[v1, .int .u64 p1], .agg #[v2, .int .u64 p2]] w fun e w' => e = .returned (.bool (decide (p1 < p2))) ∧ Below w.heap.size w w' := by
  subst e1 e2
  go_enter Yba.func34, Yba.ntmps34
  go_wp2_with fail
  go_ret
  exact ⟨rfl, ((Below.refl _ _).alloc (Nat.le_refl _) _).alloc (by simp) _⟩

set_option maxHeartbeats 400000 in
theorem before_eq (b1 c1 b2 c2 : Nat) (l1 l2 : List UInt8) (p : Int) (w : World) (hb1 : b1 < w.heap.size) (hb2 : b2 < w.heap.size) (hc1 : ∀ j (hj : j < l1.length), w.cell? ⟨b1, j, none⟩ = some (.int .u8 (l1[j].toNat : Int))) (hc2 : ∀ j (hj : j < l2.length), w.cell? ⟨b2, j, none⟩ = some (.int .u8 (l2[j].toNat : Int))) :
    Calls Yba.prog 34 #[.agg #[.slice (some ⟨b1, 0, none⟩) l1.length c1, .int .u64 p], .agg #[.slice (some ⟨b2, 0, none⟩) l2.length c2, .int .u64 p]] w fun e w' => e = .returned (.bool (Op.bytesLess l1 l2)) ∧ Below w.heap.size w w' := by
  have cv : ∀ (W : World) (b c : Nat) (l : List UInt8), (∀ j (hj : j < l.length), W.cell? ⟨b, j, none⟩ = some (.int .u8 (l[j].toNat : Int))) → (convert 91 9 (.slice (some ⟨b, 0, none⟩) l.length c)).run Yba.prog W = .ok (.string ⟨l.toArray⟩) W := fun W b c l h =>
    run_convert_bytes_back W 91 9 5 ⟨b, 0, none⟩ c l Yba.underlying91 Yba.underlying5 Yba.underlying9 (fun j hj => by
      rw [show (⟨b, 0, none⟩ : Addr).add j = ⟨b, j, none⟩ from by unfold Addr.add; split <;> simp_all]; exact h j hj)
  have k1 := cv ((w.alloc (.cells #[.slice (some ⟨b1, 0, none⟩) l1.length c1, .int .u64 p] 116)).alloc (.cells #[.slice (some ⟨b2, 0, none⟩) l2.length c2, .int .u64 p] 116)) b1 c1 l1 (fun j hj => by
    rw [World.cell?_alloc_lt _ _ _ (by simp; omega), World.cell?_alloc_lt _ _ _ hb1]; exact hc1 j hj)
  have k2 := cv ((w.alloc (.cells #[.slice (some ⟨b1, 0, none⟩) l1.length c1, .int .u64 p] 116)).alloc (.cells #[.slice (some ⟨b2, 0, none⟩) l2.length c2, .int .u64 p] 116)) b2 c2 l2 (fun j hj => by
    rw [World.cell?_alloc_lt _ _ _ (by simp; omega), World.cell?_alloc_lt _ _ _ hb2]; exact hc2 j hj)
  clear cv hc1 hc2
  go_enter Yba.func34, Yba.ntmps34
  go_wp2_with fail
  go_ret
  exact ⟨rfl, ((Below.refl _ _).alloc (Nat.le_refl _) _).alloc (by simp) _⟩

theorem before_any (b1 c1 b2 c2 : Nat) (l1 l2 : List UInt8) (w : World) (hb1 : b1 < w.heap.size) (hb2 : b2 < w.heap.size) (hc1 : ∀ j (hj : j < l1.length), w.cell? ⟨b1, j, none⟩ = some (.int .u8 (l1[j].toNat : Int))) (hc2 : ∀ j (hj : j < l2.length), w.cell? ⟨b2, j, none⟩ = some (.int .u8 (l2[j].toNat : Int))) :
    Calls Yba.prog 34 #[.agg #[.slice (some ⟨b1, 0, none⟩) l1.length c1, .int .u64 (pre l1)], .agg #[.slice (some ⟨b2, 0, none⟩) l2.length c2, .int .u64 (pre l2)]] w fun e w' => e = .returned (.bool (ltK l1 l2)) ∧ Below w.heap.size w w' := by
  unfold ltK
  by_cases hp : pre l1 = pre l2
  · rw [if_pos hp, hp]
    exact before_eq b1 c1 b2 c2 l1 l2 (pre l2) w hb1 hb2 hc1 hc2
  · rw [if_neg hp]
    exact before_ne _ _ _ _ _ _ _ _ (pre l1) (pre l2) w rfl rfl (by simp [hp])

theorem cell_below {w w' : World} (hb : Below w.heap.size w w') {a : Addr} {v : Value} (h : w.cell? a = some v) : w'.cell? a = some v :=
  (hb.cell (World.block_lt_of_cell? _ _ h)).trans h

set_option maxHeartbeats 1000000 in
theorem nbefore_any (g kb kc b2 c2 : Nat) (l l2 : List UInt8) (w : World) (hkb : kb < w.heap.size) (hb2 : b2 < w.heap.size) (h6 : w.cell? ⟨g, 6, none⟩ = some (.slice (some ⟨kb, 0, none⟩) l.length kc)) (h4 : w.cell? ⟨g, 4, none⟩ = some (.int .u64 (pre l)))
    (hc1 : ∀ j (hj : j < l.length), w.cell? ⟨kb, j, none⟩ = some (.int .u8 (l[j].toNat : Int))) (hc2 : ∀ j (hj : j < l2.length), w.cell? ⟨b2, j, none⟩ = some (.int .u8 (l2[j].toNat : Int))) :
    Calls Yba.prog 25 #[.pointer (some ⟨g, 0, none⟩), .agg #[.slice (some ⟨b2, 0, none⟩) l2.length c2, .int .u64 (pre l2)]] w fun e w' => e = .returned (.bool (ltK l l2)) ∧ Below w.heap.size w w' := by
  have hg := World.block_lt_of_cell? _ _ h6
  have hw1 : Below w.heap.size w (w.alloc (.cells #[.slice (some ⟨b2, 0, none⟩) l2.length c2, .int .u64 (pre l2)] 116)) := (Below.refl _ _).alloc (Nat.le_refl _) _
  have q6 := cell_below hw1 h6
  have q4 := cell_below hw1 h4
  have q0 : (w.alloc (.cells #[.slice (some ⟨b2, 0, none⟩) l2.length c2, .int .u64 (pre l2)] 116)).cell? ⟨w.heap.size, 0, none⟩ = some (.slice (some ⟨b2, 0, none⟩) l2.length c2) := by simp
  have q1 : (w.alloc (.cells #[.slice (some ⟨b2, 0, none⟩) l2.length c2, .int .u64 (pre l2)] 116)).cell? ⟨w.heap.size, 1, none⟩ = some (.int .u64 (pre l2)) := by simp
  have hs1 : w.heap.size < (w.alloc (.cells #[.slice (some ⟨b2, 0, none⟩) l2.length c2, .int .u64 (pre l2)] 116)).heap.size := by simp
  have HC1 := hide (fun j hj => cell_below hw1 (hc1 j hj))
  have HC2 := hide (fun j hj => cell_below hw1 (hc2 j hj))
  have HB := hide hw1
  clear hc1 hc2 h6 h4 hw1
  go_enter Yba.func25, Yba.ntmps25
  go_wp2_with fail
  generalize w.alloc (.cells #[.slice (some ⟨b2, 0, none⟩) l2.length c2, .int .u64 (pre l2)] 116) = w1 at *
  go_region_with (first | (go_at_call 15; refine (skey_any g _ kb l.length kc (pre l) _ rfl ?_ ?_).mono ?_; (simp [*]); (simp [*]); rintro e w2 ⟨rfl, hB2⟩; have r0 := cell_below hB2 q0; have r1 := cell_below hB2 q1) | (go_at_call 34; refine (before_any kb kc b2 c2 l l2 _ (by have := hB2.size; simp at this; omega) (by have := hB2.size; simp at this; omega) (fun j hj => cell_below hB2 (unhide HC1 j hj)) (fun j hj => cell_below hB2 (unhide HC2 j hj))).mono ?_; rintro e w3 ⟨rfl, hB3⟩))
  all_goals go_wp2_with fail
  all_goals go_ret
  all_goals
    refine ⟨rfl, ?_⟩
    have a1 : Below w.heap.size w w2 := (unhide HB).trans ⟨hB2.os, hB2.tape, hB2.output, hB2.size, fun k hk => hB2.block k (by simp; omega)⟩
    exact a1.trans (hB3.mono (by have := a1.size; omega))

end Go.Proofs.Ybulkapdi.K
