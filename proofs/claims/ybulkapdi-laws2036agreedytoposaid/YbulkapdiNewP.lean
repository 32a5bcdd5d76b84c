import Derived.Test.YbulkapdiAdd
namespace Go.Proofs.Ybulkapdi
open Go.RowKit

theorem Yba.info41 : (Yba.prog.info? 41).map (fun i => (i.zero, i.size, i.bytes)) = some (some (.int .u64 0), 1, 8) := by kernel_rfl
theorem Yba.info42 : (Yba.prog.info? 42).map (fun i => (i.zero, i.size, i.bytes)) = some (some (.slice none 0 0), 1, 24) := by kernel_rfl

theorem madeCells_one (z : Value) (n : Nat) : madeCells #[z] n = Array.replicate n z := by
  apply Array.toList_inj.1
  rw [toList_madeCells_one, Array.toList_replicate]

/-- 'make([]T, n)' of one-cell elements: the new block written out. -/
theorem make_run {P : Program} (t e : TypeId) (z : Value) (bytes : Nat) (ht : P.underlying t = some (.slice e)) (hinfo : (P.info? e).map (fun i => (i.zero, i.size, i.bytes)) = some (some z, 1, bytes))
    (hz : z.cells = #[z]) (n : Nat) (hn : n ≤ 1000000) (hb : bytes ≤ 1000) (w : World) :
    (Instr.makeSlice t (.int .i64 (n : Int)) (.int .i64 (n : Int))).run P w = .ok (.slice (some ⟨w.heap.size, 0, none⟩) n n) (w.alloc (.cells (Array.replicate n z) e)) := by
  obtain ⟨i, hi, hz0, hz1, hz2⟩ := info_parts hinfo
  have hbb : (i.bytes : Int) * (n : Int) ≤ 281474976710656 := by
    rw [hz2]
    have : bytes * n ≤ 1000 * 1000000 := Nat.mul_le_mul hb hn
    have e : ((bytes : Int) * (n : Int)) = ((bytes * n : Nat) : Int) := by simp
    rw [e]; omega
  have := run_make (P := P) w t e i z ht hi hz0 .i64 .i64 (n : Int) (n : Int) (by omega) (by omega) hbb (by omega)
  rw [this, hz, hz1]
  simp [madeCells_one]

structure NewP (w wr : World) (bp ball n W k : Nat) : Prop where
  row : ∀ x, x < k → x < n → wr.cell? ⟨bp, x, none⟩ = some (.slice (some ⟨ball, x * W, none⟩) W (n * W - x * W))
  rest : ∀ x, x < n → (wr.cell? ⟨bp, x, none⟩).isSome = true
  free : ∀ x, x < n → wr.frozen? ⟨bp, x, none⟩ = false
  word : ∀ x j, x < n → j < W → wr.cell? ⟨ball, x * W + j, none⟩ = some (.int .u64 0)
  live : ∀ x j, x < n → j < W → wr.frozen? ⟨ball, x * W + j, none⟩ = false
  below : Below w.heap.size w wr
  size : w.heap.size + 1 < wr.heap.size

theorem NewP.step {w wr : World} {bp ball n W k : Nat} (h : NewP w wr bp ball n W k) (hlt : k < n) (hne : bp ≠ ball) (hB : w.heap.size ≤ bp) :
    NewP w (wr.setCell ⟨bp, k, none⟩ (.slice (some ⟨ball, k * W, none⟩) W (n * W - k * W))) bp ball n W (k + 1) := by
  obtain ⟨v, hv⟩ := Option.isSome_iff_exists.1 (h.rest k hlt)
  have other : ∀ x, x ≠ k → (⟨bp, k, none⟩ : Addr) ≠ ⟨bp, x, none⟩ := fun x hx e => hx (congrArg Addr.off e).symm
  have far : ∀ o, (⟨bp, k, none⟩ : Addr) ≠ ⟨ball, o, none⟩ := fun o e => hne (congrArg Addr.block e)
  refine ⟨fun x hx hxn => ?_, fun x hx => ?_, fun x hx => ?_, fun x j hx hj => ?_, fun x j hx hj => ?_, h.below.setCell hB _, by simpa using h.size⟩
  · by_cases e : x = k
    · subst e; exact World.cell?_setCell_same _ _ _ hv
    · rw [World.cell?_setCell_other _ _ _ _ (other x e)]; exact h.row x (by omega) hxn
  · by_cases e : x = k
    · subst e; rw [World.cell?_setCell_same _ _ _ hv]; rfl
    · rw [World.cell?_setCell_other _ _ _ _ (other x e)]; exact h.rest x hx
  · rw [World.frozen?_setCell]; exact h.free x hx
  · rw [World.cell?_setCell_other _ _ _ _ (far _)]; exact h.word x j hx hj
  · rw [World.frozen?_setCell]; exact h.live x j hx hj

set_option maxHeartbeats 1000000 in
theorem newP_any (n W : Nat) (w : World) (h1 : 1 ≤ n) (hn : n ≤ 255) (hW : W = (n + 63) / 64) :
    Calls Yba.prog 31 #[.int .i64 n] w fun e w' => e = .returned (.slice (some ⟨w.heap.size + 1, 0, none⟩) n n) ∧ Prec w' (w.heap.size + 1) w.heap.size n W (fun _ _ => 0) ∧ Below w.heap.size w w' ∧ w.heap.size + 1 < w'.heap.size := by
  have hW1 : 1 ≤ W := by omega
  have hW4 : W ≤ 4 := by omega
  have hnW : n ≤ W * 64 := by omega
  have eW : ((n : Int) + 63) / 64 = (W : Int) := by omega
  have hle : n * W ≤ 255 * 4 := Nat.mul_le_mul hn hW4
  have hle' : (n : Int) * (W : Int) ≤ 1020 := by have : (n : Int) * (W : Int) = ((n * W : Nat) : Int) := by simp
                                                 omega
  have hge' : 0 ≤ (n : Int) * (W : Int) := by have : (n : Int) * (W : Int) = ((n * W : Nat) : Int) := by simp
                                              omega
  have mk1 : ∀ (w : World), (Instr.makeSlice 42 (.int .i64 ((n : Int) * (W : Int))) (.int .i64 ((n : Int) * (W : Int)))).run Yba.prog w = .ok (.slice (some ⟨w.heap.size, 0, none⟩) (n * W) (n * W)) (w.alloc (.cells (Array.replicate (n * W) (.int .u64 0)) 41)) := fun w => by
    have := make_run (P := Yba.prog) 42 41 (.int .u64 0) 8 Yba.underlying42 Yba.info41 rfl (n * W) (by omega) (by omega) w
    simpa using this
  have mk2 := fun (w : World) => make_run (P := Yba.prog) 133 42 (.slice none 0 0) 24 Yba.underlying133 Yba.info42 rfl n (by omega) (by omega) w
  clear hW
  go_enter Yba.func31, Yba.ntmps31
  go_wp2_with fail
  simp only [eW]
  clear mk1 mk2 eW
  go_loopw [18] (fun i wr => ∃ k : Nat, k ≤ n ∧ i = .int .i64 k ∧ NewP w wr (w.heap.size + 1) w.heap.size n W k) (fun i _ => n - (intOf i).toNat)
  case atStart =>
    refine ⟨0, by omega, rfl, fun x hx => by omega, fun x hx => ?_, fun x hx => ?_, fun x j hx hj => ?_, fun x j hx hj => ?_, ?_, ?_⟩
    · simp [go_sem, hx]
    · simp [go_sem]
    · have : x * W + j < n * W := by have : x * W + W ≤ n * W := by rw [← Nat.succ_mul]; exact Nat.mul_le_mul_right _ hx
                                     omega
      simp [go_sem, this]
    · simp [go_sem]
    · go_grown
    · simp
  case round =>
    obtain ⟨k, hk, rfl, hN⟩ := hrel
    by_cases hlt : k < n
    · have e0 : (k : Int) * (W : Int) = ((k * W : Nat) : Int) := by simp
      have e1 : ((k : Int) * (W : Int)).toNat = k * W := by rw [e0]; rfl
      have e2 : ((k : Int) + 1) * (W : Int) = ((k * W + W : Nat) : Int) := by rw [Int.add_mul, e0]; simp
      have e3 : (((k : Int) + 1) * (W : Int)).toNat = k * W + W := by rw [e2]; rfl
      have hm : k * W + W ≤ n * W := by rw [← Nat.succ_mul]; exact Nat.mul_le_mul_right _ hlt
      have b1 : 0 ≤ (k : Int) * (W : Int) := by omega
      have b2 : (k : Int) * (W : Int) ≤ ((k : Int) + 1) * (W : Int) := by omega
      have b3 : ((k : Int) + 1) * (W : Int) ≤ (n : Int) * (W : Int) := by
        have : (n : Int) * (W : Int) = ((n * W : Nat) : Int) := by simp
        omega
      clear e0 e2
      obtain ⟨v, hv⟩ := Option.isSome_iff_exists.1 (hN.rest k hlt)
      have hf := hN.free k hlt
      go_wp2_with fail
      go_roundw
      case rel => exact ⟨k + 1, by omega, by go_num, hN.step hlt (by omega) (by omega)⟩
      case measure => simp [intOf]; omega
    · go_wp2_with fail
      go_ret
      have : k = n := by omega
      subst this
      exact ⟨rfl, ⟨fun x hx => hN.row x hx hx, hN.word, fun _ _ _ _ => by decide, hN.live, by omega, hnW, hW4⟩, hN.below, hN.size⟩

end Go.Proofs.Ybulkapdi
