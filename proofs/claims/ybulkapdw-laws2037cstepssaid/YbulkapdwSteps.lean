/- The statement LawS2037CStepsSaid out of the walk. After the guide's shell. -/
import Derived.Test.YbulkapdwRows
import Derived.WalkKit
import Derived.ProofKit
import Derived.OpenShut
import Derived.ShutString
import Derived.ChangeOld
import Derived.Below
import Derived.Deep.SlicePairs
import Derived.Test.YbulkapdwStepsW
namespace Go.Proofs.Ybulkapdw.lawS2037CSteps
open Go.ChangeShapes Go.WideShapes Go.ChangeAt Go.RowKit
open Go.ChangeMaps (open_string shut_string)
set_option linter.unusedVariables false

theorem own : ownKnob Yba.prog.godebug = none := by kernel_rfl
theorem laidOut : laidOutB Yba.prog = true := by kernel_rfl

/-- What the walk is told of the slice of items. -/
def IsPairs (w : World) (a : Option Addr) (len : Nat) (ps : List (Nat × Bool)) : Prop :=
  ps.length = len ∧ (∀ e ∈ ps, e.1 < 256) ∧ Items w a ps

theorem walk (a0 : Option Addr) (len0 cap0 : Nat) (z0 : List (Nat × Bool)) (w : World) (w0 : IsPairs w a0 len0 z0) :
    Calls Yba.prog 4 #[.slice a0 len0 cap0] w fun e w' => e = .returned (.bool true) ∧ Below w.heap.size w w' := by
  obtain ⟨rfl, hps, hcell⟩ := w0
  by_cases hl : 1024 < z0.length
  · exact steps_long a0 z0.length cap0 w hl
  · exact steps_walk a0 cap0 z0 w (by omega) hps hcell

/-! ### THE ROW's STEP: WRITTEN OUT: LEAVE IT -/
set_option maxRecDepth 100000 in
theorem lifted (os : Os) (started : os.Started) (H : Type) (enc : TypeId × Value → H) :
    ReturnsInHanded {} Yba.checked os 4 .any (Rows.lawS2037CStepsSpec.pre6 enc Yba.prog Yba.f4 Rows.lawS2037CStepsRow.domain false) (Rows.lawS2037CStepsSpec.post enc Yba.prog Yba.f4 false true false false) := by
  refine returnsInHanded_of_change (C := Yba.checked) own started (by kernel_rfl) Yba.func4
    (ChangeSpec.witness6 (enc := enc) (C := Yba.checked) false ⟨#[], #[.slice none 0 0], []⟩ 8 (by kernel_rfl) (by kernel_rfl) (by kernel_rfl) (by kernel_rfl)) ?_
  intro W base args ds gs before hval0 hW hcnd _
  have hval : ∀ (j : Nat) t v, Yba.f4.params[j]? = some t → args[j]? = some v → Value.okWide Yba.prog W .any base t v := hval0
  have hW' := hW
  obtain ⟨p, q, hA0, hV, rfl, hfz, hnd⟩ := hW
  have hA : DataW.TrodAll enc Yba.prog W 0 (fun _ => true) true Yba.f4.params.toList args.toList ds p := hA0
  rw [Yba.params4] at hA hval
  obtain ⟨v0, vs0, d0, ds0, p0, q0, hargs, rfl, rfl, h0, r0⟩ := trodAll_cons hA
  obtain ⟨rfl, rfl, rfl⟩ := trodAll_nil r0
  obtain rfl : args = #[v0] := by cases args; simp_all
  obtain ⟨rfl, rfl⟩ := trodVars_none hV
  obtain ⟨a0, len0, cap0, rfl⟩ := okWide_slice Yba.underlying22 (hval 0 22 v0 rfl rfl)
  have k0 := h0
  have lt0 : ∀ x ∈ p0, x.block < W.heap.size := by obtain ⟨m, hm⟩ := k0; exact DataW.trod_lt m _ _ _ hm
  obtain ⟨z0, w0⟩ : ∃ zs, IsPairs W a0 len0 zs := by
    obtain ⟨fuel, hf⟩ := h0
    rcases Deep.open_slice_pairs Yba.underlying22 Yba.underlying26 (by kernel_rfl) rfl rfl (by kernel_rfl) (by kernel_rfl) hf with ⟨hcs, _⟩ | ⟨x, l, c, m, n, V0, V1, D0, D1, P0, P1, hcs, _, hl, hm, hz, _, hcell⟩
    · simp [Value.cells] at hcs
      obtain ⟨rfl, rfl, rfl⟩ := hcs
      exact ⟨[], rfl, by simp, .inl rfl⟩
    · simp [Value.cells] at hcs
      obtain ⟨rfl, rfl, rfl⟩ := hcs
      have hlm : len0 ≤ m := by rw [hz]; simp; exact hl
      have hV : ∀ i, i < m → ∃ e : Nat × Bool, e.1 < 256 ∧ W.cell? (x.add (i * 2)) = some (.int .u8 (e.1 : Int)) ∧ W.cell? (x.add (i * 2 + 1)) = some (.bool e.2) := by
        intro i hi
        obtain ⟨c0, c1, t0, t1⟩ := hcell i hi
        obtain ⟨z0, e0, _, b0⟩ := DataW.trod_int Yba.underlying5 t0
        obtain ⟨y0, e1, _⟩ := DataW.trod_bool Yba.underlying4 t1
        simp at e0 e1
        have g0 := bounds_u8 b0
        obtain ⟨n0, rfl⟩ := Int.eq_ofNat_of_zero_le g0.1
        exact ⟨(n0, y0), by dsimp only; omega, by rw [c0, e0], by rw [c1, e1]⟩
      obtain ⟨f, hf2⟩ := Deep.choose_lt hV
      refine ⟨(List.range len0).map f, by simp, ?_, ?_⟩
      · intro e he
        simp only [List.mem_map, List.mem_range] at he
        obtain ⟨i, hi, rfl⟩ := he
        exact (hf2 i (by omega)).1
      · by_cases h0' : len0 = 0
        · left; simp [h0']
        · right
          obtain ⟨b, off, spot⟩ := x
          have hspot : spot = none := by simpa [Addr.add] using World.cell?_spot (hf2 0 (by omega)).2.1
          subst hspot
          refine ⟨b, off, rfl, fun i e he => ?_⟩
          have hi : i < len0 := by
            obtain ⟨h, _⟩ := List.getElem?_eq_some_iff.1 he
            simpa using h
          simp [hi] at he
          subst he
          have := (hf2 i (by omega)).2
          rw [add_plain, add_plain] at this
          simpa [Nat.add_assoc] using this
  clear hA0 hval0
  refine (walk a0 len0 cap0 z0 W w0).mono fun e W' ⟨he, bel⟩ => ?_
  subst he
  exact ⟨_, rfl, _, _, _, [], _, [], hW', trodAll_mk1 (shut_bool Yba.underlying4 _), (trodAll_cons_mk (Below.trod laidOut (by kernel_rfl) (of_decide_eq_true (by kernel_rfl)) k0 bel lt0) trodAll_mk0), rfl, bel.frame _, fun h => by cases h⟩

theorem over : Rows.lawS2037CStepsRow.holds Yba.pinned (OpenSpec.ofChange Rows.lawS2037CStepsSpec) :=
  OpenClaim.holds_of_wide 4 Yba.f4 rfl rfl rfl rfl rfl rfl rfl ⟨rfl, rfl, rfl, rfl, rfl⟩ rfl rfl rfl rfl rfl (by kernel_rfl) Yba.func4 (by kernel_rfl)
    (of_decide_eq_true (by kernel_rfl)) (by unfold Func.isWrapper; first | (rw [if_pos (by decide +kernel)]; kernel_rfl) | (rw [if_neg (by decide +kernel)]; exact ⟨rfl, rfl⟩))
    (fun os started H enc _ => lifted os started H enc)

/-- ████ THE STATEMENT ████ -/
theorem proved : Rows.LawS2037CStepsSaid := over
#print axioms proved
end Go.Proofs.Ybulkapdw.lawS2037CSteps
