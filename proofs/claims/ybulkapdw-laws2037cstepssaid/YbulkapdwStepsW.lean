import Derived.Test.YbulkapdwCountW
namespace Go.Proofs.Ybulkapdw
open Go.RowKit

set_option maxRecDepth 100000 in
theorem steps_long (ao : Option Addr) (len cap : Nat) (w : World) (hl : 1024 < len) :
    Calls Yba.prog 4 #[.slice ao len cap] w fun e w' => e = .returned (.bool true) ∧ Below w.heap.size w w' := by
  go_enter Yba.func4, Yba.ntmps4
  go_wp2_with fail
  go_ret
  exact ⟨rfl, Below.refl _ _⟩

set_option maxRecDepth 100000 in
set_option maxHeartbeats 2000000 in
theorem steps_walk (ao : Option Addr) (cap : Nat) (ps : List (Nat × Bool)) (w : World) (hl : ps.length ≤ 1024) (hps : ∀ e ∈ ps, e.1 < 256) (hcell : Items w ao ps) :
    Calls Yba.prog 4 #[.slice ao ps.length cap] w fun e w' => e = .returned (.bool true) ∧ Below w.heap.size w w' := by
  have hl1 : ¬ (1024 : Int) < (ps.length : Int) := by omega
  have hfl : ∀ t, (flTo ps t).length ≤ 1024 := fun t => Nat.le_trans (flTo_len ps t) hl
  go_enter Yba.func4, Yba.ntmps4
  go_wp2_with fail
  refine (build_any ao cap ps w hl hps hcell).mono ?_
  rintro e w1 ⟨bt, pv, rfl, hT⟩
  go_wp2_with fail
  refine (from_any bt 160 w w1 (flTo ps) pv hT (by omega) hfl).mono ?_
  rintro e w2 ⟨rfl, hB2⟩
  have e0 : sumN (fun t => nlive (flTo ps t)) 160 (160 - 160) = 0 := rfl
  rw [e0]
  clear e0
  go_wp2_with fail
  replace hT := hT.later hB2
  have hcell1 := hcell.later hT.below
  clear hB2 hcell
  go_loopw [4] (fun x wr => ∃ j : Nat, j ≤ 160 ∧ x = .int .i64 j ∧ Below w2.heap.size w2 wr) (fun x _ => 160 - (intOf x).toNat)
  case atStart => exact ⟨0, by omega, rfl, Below.refl _ _⟩
  case round =>
    obtain ⟨j, hj, rfl, hBj⟩ := hrel
    by_cases hjl : j < 160
    · go_wp2_with fail
      generalize wr = wj at hBj ⊢
      go_loopw [5, 22] (fun n x wr => ∃ k : Nat, k ≤ ps.length ∧ x = .int .i64 k ∧ n = .int .i64 ((ps.take k).countP (inB j) : Nat) ∧ Below w2.heap.size w2 wr) (fun _ x _ => ps.length - (intOf x).toNat)
      case atStart => exact ⟨0, by omega, rfl, by simp, hBj⟩
      case round =>
        clear hBj
        obtain ⟨k, hk, rfl, rfl, hB⟩ := hrel
        by_cases hlt : k < ps.length
        · rcases hcell1.later hB with rfl | ⟨b0, off, rfl, hc⟩
          · simp at hlt
          obtain ⟨c0, c1⟩ := hc k ps[k] (by simp [hlt])
          have hlt0 := hps ps[k] (List.getElem_mem hlt)
          have hcnt := countP_take (inB j) ps k hlt
          have hle : (ps.take k).countP (inB j) ≤ k := Nat.le_trans List.countP_le_length (by simp; omega)
          generalize he : ps[k] = e at c0 c1 hlt0 hcnt
          clear he hc
          obtain ⟨bk, st⟩ := e
          dsimp only at c0 c1 hlt0
          have HC := hide hcnt
          clear hcnt
          generalize (ps.take k).countP (inB j) = C at HC hle ⊢
          have hB2 := hB.alloc hB.size (.cells #[.int .u8 (bk : Int), .bool st] 26)
          by_cases hge : bk % 160 = j
          · have hge' : ((bk : Int) % 160 == (j : Int)) = true := by simp; omega
            cases st
            · go_wp2_with fail
              go_roundw
              case rel => exact ⟨k + 1, by omega, by go_num, by rw [HC.out]; simp [inB, hge], hB2⟩
              case measure => simp [intOf]; omega
            · go_wp2_with fail
              go_roundw
              case rel => exact ⟨k + 1, by omega, by go_num, by rw [HC.out]; simp [inB], hB2⟩
              case measure => simp [intOf]; omega
          · have hge' : ((bk : Int) % 160 == (j : Int)) = false := by simp; omega
            go_wp2_with fail
            go_roundw
            case rel => exact ⟨k + 1, by omega, by go_num, by rw [HC.out]; simp [inB, hge], hB2⟩
            case measure => simp [intOf]; omega
        · have : k = ps.length := by omega
          subst this
          rw [List.take_length]
          have hs := sum_step ps j hjl
          have hm : ∀ t, nlive (flTo ps t) ≤ 1024 := fun t => Nat.le_trans (nlive_le _) (hfl t)
          have hb1 := sumN_le (fun t => nlive (flTo ps t)) (j + 1) (160 - (j + 1)) 1024 hm
          have hc1 : ps.countP (inB j) ≤ ps.length := List.countP_le_length
          generalize hSS : sumN (fun t => nlive (flTo ps t)) (j + 1) (160 - (j + 1)) = S at hs hb1
          generalize hCC : ps.countP (inB j) = C at hs hc1 ⊢
          have HS := hide hs
          have HSS := hide hSS
          clear hs hSS hCC
          go_wp2_with fail
          refine (from_any bt j w wr (flTo ps) pv (hT.later hB) (by omega) hfl).mono ?_
          rintro e w3 ⟨rfl, hB3⟩
          replace hB3 := hB.trans (hB3.mono hB.size)
          rw [HS.out]
          go_wp2_with fail
          refine (from_any bt (j + 1) w w3 (flTo ps) pv (hT.later hB3) (by omega) hfl).mono ?_
          rintro e w4 ⟨rfl, hB4⟩
          replace hB4 := hB3.trans (hB4.mono hB3.size)
          rw [HSS.out]
          have hd : (((C + S : Nat) : Int) - (S : Int)) = (C : Int) := by omega
          go_wp2_with fail
          go_roundw
          case rel => exact ⟨j + 1, by omega, by go_num, hB4⟩
          case measure => simp [intOf]; omega
    · go_wp2_with fail
      go_ret
      exact ⟨rfl, hT.below.trans (hBj.mono hT.below.size)⟩

end Go.Proofs.Ybulkapdw
