import Derived.Test.YbulkapdwSum
namespace Go.Proofs.Ybulkapdw
open Go.RowKit

theorem Items.later {w w' : World} {a : Option Addr} {ps : List (Nat × Bool)} (h : Items w a ps) (hb : Below w.heap.size w w') : Items w' a ps := by
  rcases h with h | ⟨b, off, e, hc⟩
  · exact Or.inl h
  · exact Or.inr ⟨b, off, e, fun i x hx => ⟨cell_below hb (hc i x hx).1, cell_below hb (hc i x hx).2⟩⟩

set_option maxRecDepth 100000 in
theorem count_long (ao : Option Addr) (len cap : Nat) (i : Int) (w : World) (hl : 1024 < len) :
    Calls Yba.prog 3 #[.slice ao len cap, .int .u8 i] w fun e w' => e = .returned (.bool true) ∧ Below w.heap.size w w' := by
  go_enter Yba.func3, Yba.ntmps3
  go_wp2_with fail
  go_ret
  exact ⟨rfl, Below.refl _ _⟩

set_option maxRecDepth 100000 in
set_option maxHeartbeats 2000000 in
theorem count_walk (ao : Option Addr) (cap i : Nat) (ps : List (Nat × Bool)) (w : World) (hl : ps.length ≤ 1024) (hps : ∀ e ∈ ps, e.1 < 256) (hi : i < 256) (hcell : Items w ao ps) :
    Calls Yba.prog 3 #[.slice ao ps.length cap, .int .u8 i] w fun e w' => e = .returned (.bool true) ∧ Below w.heap.size w w' := by
  have hl1 : ¬ (1024 : Int) < (ps.length : Int) := by omega
  go_enter Yba.func3, Yba.ntmps3
  go_wp2_with fail
  refine (build_any ao cap ps w hl hps hcell).mono ?_
  rintro e w1 ⟨bt, pv, rfl, hT⟩
  go_wp2_with fail
  have ef : ((i : Int) % 161) = ((i % 161 : Nat) : Int) := by omega
  have hf : i % 161 ≤ 160 := by omega
  simp only [ef]
  clear ef
  generalize i % 161 = f at hf ⊢
  have hcell1 := hcell.later hT.below
  go_loopw [7, 20] (fun n x wr => ∃ k : Nat, k ≤ ps.length ∧ x = .int .i64 k ∧ n = .int .i64 ((ps.take k).countP (fromB f) : Nat) ∧ Below w1.heap.size w1 wr) (fun _ x _ => ps.length - (intOf x).toNat)
  case atStart => exact ⟨0, by omega, rfl, by simp, Below.refl _ _⟩
  case round =>
    obtain ⟨k, hk, rfl, rfl, hB⟩ := hrel
    by_cases hlt : k < ps.length
    · rcases hcell1.later hB with rfl | ⟨b0, off, rfl, hc⟩
      · simp at hlt
      obtain ⟨c0, c1⟩ := hc k ps[k] (by simp [hlt])
      have hlt0 := hps ps[k] (List.getElem_mem hlt)
      have hcnt := countP_take (fromB f) ps k hlt
      have hle : (ps.take k).countP (fromB f) ≤ k := Nat.le_trans List.countP_le_length (by simp; omega)
      generalize he : ps[k] = e at c0 c1 hlt0 hcnt
      clear he hc
      obtain ⟨bk, st⟩ := e
      dsimp only at c0 c1 hlt0
      have HC := hide hcnt
      clear hcnt
      generalize (ps.take k).countP (fromB f) = C at HC hle ⊢
      have hB2 := hB.alloc hB.size (.cells #[.int .u8 (bk : Int), .bool st] 26)
      by_cases hge : f ≤ bk % 160
      · have hge' : (f : Int) ≤ (bk : Int) % 160 := by omega
        cases st
        · go_wp2_with fail
          go_roundw
          case rel => exact ⟨k + 1, by omega, by go_num, by rw [HC.out]; simp [fromB, hge], hB2⟩
          case measure => simp [intOf]; omega
        · go_wp2_with fail
          go_roundw
          case rel => exact ⟨k + 1, by omega, by go_num, by rw [HC.out]; simp [fromB], hB2⟩
          case measure => simp [intOf]; omega
      · have hge' : ¬ (f : Int) ≤ (bk : Int) % 160 := by omega
        go_wp2_with fail
        go_roundw
        case rel => exact ⟨k + 1, by omega, by go_num, by rw [HC.out]; simp [fromB, hge], hB2⟩
        case measure => simp [intOf]; omega
    · have : k = ps.length := by omega
      subst this
      go_wp2_with fail
      refine (from_any bt f w wr (flTo ps) pv (hT.later hB) hf (fun t => Nat.le_trans (flTo_len ps t) hl)).mono ?_
      rintro e w2 ⟨rfl, hB2⟩
      have hs := sum_from ps f hf
      rw [List.take_length, hs]
      go_wp2_with fail
      go_ret
      exact ⟨rfl, hT.below.trans ((hB.trans (hB2.mono hB.size)).mono hT.below.size)⟩

end Go.Proofs.Ybulkapdw
