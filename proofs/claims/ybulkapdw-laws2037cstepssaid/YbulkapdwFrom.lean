import Derived.Test.YbulkapdwLive
namespace Go.Proofs.Ybulkapdw
open Go.RowKit

/-- The table's rows in memory. -/
structure TB (w0 w : World) (bt : Nat) (fl : Nat → List Bool) (pv : Nat → Value) : Prop where
  cell : ∀ t, t < 160 → w.cell? ⟨bt, 23 + t, none⟩ = some (pv t)
  free : ∀ t, t < 160 → w.frozen? ⟨bt, 23 + t, none⟩ = false
  own : ∀ t, t < 160 → w.ownsRow w0.heap.size 58 25 (pv t) (fl t).length (ents (fl t))
  apt : ∀ s t, s < 160 → t < 160 → s ≠ t → ∀ g, (pv s).ownBlock = some g → (pv t).ownBlock ≠ some g
  ne : ∀ t, t < 160 → (pv t).ownBlock ≠ some bt
  below : Below w0.heap.size w0 w
  lo : w0.heap.size ≤ bt
  size : bt < w.heap.size

theorem TB.later {w0 w w' : World} {bt : Nat} {fl : Nat → List Bool} {pv : Nat → Value} (h : TB w0 w bt fl pv) (hb : Below w.heap.size w w') : TB w0 w' bt fl pv :=
  ⟨fun t ht => cell_below hb (h.cell t ht), fun t ht => by rw [hb.frozen (World.block_lt_of_cell? _ _ (h.cell t ht))]; exact h.free t ht, fun t ht => ownsRow_below hb (h.own t ht), h.apt, h.ne,
    h.below.trans (hb.mono h.below.size), h.lo, Nat.lt_of_lt_of_le h.size hb.size⟩

/-- f i + .. + f (i + n - 1). -/
def sumN (f : Nat → Nat) (i : Nat) : Nat → Nat
  | 0 => 0
  | n + 1 => sumN f i n + f (i + n)
theorem sumN_le (f : Nat → Nat) (i n B : Nat) (h : ∀ j, f j ≤ B) : sumN f i n ≤ n * B := by
  induction n with
  | zero => simp [sumN]
  | succ n ih => have := h (i + n); simp only [sumN]; rw [Nat.succ_mul]; omega

theorem Yba.info39 : (Yba.prog.info? 39).map (fun i => (i.zero, i.size, i.bytes)) = some (some (.slice none 0 0), 1, 24) := by kernel_rfl

theorem slice_run (bt i : Nat) (hi : i ≤ 160) (w : World) : ∃ A : Addr, (Instr.sliceAt 40 (.pointer (some ⟨bt, 23, none⟩)) (some (.int .i64 (i : Int))) none none).run Yba.prog w = .ok (.slice (some A) (160 - i) (160 - i)) w ∧ (i < 160 → A = ⟨bt, 23 + i, none⟩) := by
  have hu : Yba.prog.underlying 40 = some (.array 160 39) := Yba.underlying40
  have e1 : Yba.prog.arrayLen 40 = 160 := by simp [Program.arrayLen, hu]
  have e2 : Yba.prog.elem 40 = 39 := by simp [Program.elem, hu]
  obtain ⟨j, hj, hz0, hz1, hz2⟩ := info_parts Yba.info39
  have := run_sliceAt_array_l (P := Yba.prog) w 40 ⟨bt, 23, none⟩ (by rw [e1, e2]; exact hu) .i64 (i : Int) (by omega) (by rw [e1]; omega)
  rw [this, e1, e2]
  refine ⟨if 160 = i then ⟨bt, 23, none⟩ else ⟨bt, 23 + i, none⟩, ?_, fun h => by rw [if_neg (by omega)]⟩
  simp [sizeOf, typeInfo, hj, hz1, slicedAt, Addr.add_mid]

set_option maxRecDepth 100000 in
set_option maxHeartbeats 2000000 in
theorem from_any (bt i : Nat) (w0 w : World) (fl : Nat → List Bool) (pv : Nat → Value) (h : TB w0 w bt fl pv) (hi : i ≤ 160) (hl : ∀ t, (fl t).length ≤ 1024) :
    Calls Yba.prog 6 #[.pointer (some ⟨bt, 0, none⟩), .int .i64 i] w fun e w' => e = .returned (.int .i64 (sumN (fun t => nlive (fl t)) i (160 - i) : Nat)) ∧ Below w.heap.size w w' := by
  have hm : ∀ j, nlive (fl j) ≤ 1024 := fun j => Nat.le_trans (nlive_le _) (hl j)
  obtain ⟨A, hrun, hA⟩ := slice_run bt i hi w
  go_enter Yba.func6, Yba.ntmps6
  go_wp2_with fail
  clear hrun
  go_loopw [5, 14] (fun n x wr => ∃ k : Nat, k ≤ 160 - i ∧ x = .int .i64 k ∧ n = .int .i64 (sumN (fun t => nlive (fl t)) i k : Nat) ∧ Below w.heap.size w wr) (fun _ x _ => (160 - i) - (intOf x).toNat)
  case atStart =>
    exact ⟨0, by omega, rfl, by simp [sumN], Below.refl _ _⟩
  case round =>
    obtain ⟨k, hk, rfl, rfl, hB⟩ := hrel
    by_cases hlt : k < 160 - i
    · obtain rfl := hA (by omega)
      have hT := h.later hB
      have hc : wr.cell? ⟨bt, 23 + i + k, none⟩ = some (pv (i + k)) := by
        have := hT.cell (i + k) (by omega)
        rwa [← Nat.add_assoc] at this
      have hs := sumN_le (fun t => nlive (fl t)) i k 1024 hm
      have hs2 := hm (i + k)
      have hstep : Hid (sumN (fun t => nlive (fl t)) i (k + 1) = sumN (fun t => nlive (fl t)) i k + nlive (fl (i + k))) := hide rfl
      generalize sumN (fun t => nlive (fl t)) i k = S at hs hstep ⊢
      go_wp2_with fail
      refine (live_any _ _ _ _ (hT.own (i + k) (by omega)) (hl _)).mono ?_
      rintro e w2 ⟨rfl, hB2⟩
      generalize nlive (fl (i + k)) = N at hs2 hstep ⊢
      clear hT hc
      replace hB2 : Below w.heap.size w w2 := hB.trans (hB2.mono hB.size)
      go_wp2_with fail
      go_roundw
      case rel => exact ⟨k + 1, by omega, by go_num, by rw [hstep.out]; go_num, hB2⟩
      case measure => simp [intOf]; omega
    · go_wp2_with fail
      go_ret
      have : k = 160 - i := by omega
      subst this
      exact ⟨rfl, hB⟩

end Go.Proofs.Ybulkapdw
