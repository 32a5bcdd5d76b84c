/- The statement LawS2036AGreedyTopoSaid out of the walk. After the guide's shell. -/
import Derived.Test.YbulkapdiRows
import Derived.WalkKit
import Derived.ProofKit
import Derived.OpenShut
import Derived.ShutString
import Derived.ChangeOld
import Derived.Below
import Derived.Deep.SlicePairs
import Derived.Test.YbulkapdiLaw
namespace Go.Proofs.Ybulkapdi.lawS2036AGreedyTopo
open Go.ChangeShapes Go.WideShapes Go.ChangeAt Go.RowKit
open Go.ChangeMaps (open_string shut_string)
set_option linter.unusedVariables false

theorem own : ownKnob Yba.prog.godebug = none := by kernel_rfl
theorem laidOut : laidOutB Yba.prog = true := by kernel_rfl

/-- What the walk is told of the slice of pairs. -/
def IsPairs (w : World) (a : Option Addr) (len : Nat) (ps : List (Nat × Nat)) : Prop :=
  ps.length = len ∧ (∀ e ∈ ps, e.1 < 65536 ∧ e.2 < 65536) ∧
  (ps = [] ∨ ∃ b off, a = some ⟨b, off, none⟩ ∧ ∀ (i : Nat) (e : Nat × Nat), ps[i]? = some e → w.cell? ⟨b, off + i * 2, none⟩ = some (.int .u16 (e.1 : Int)) ∧ w.cell? ⟨b, off + i * 2 + 1, none⟩ = some (.int .u16 (e.2 : Int)))

theorem walk (a0 : Int) (a1 : Option Addr) (len1 cap1 : Nat) (ps : List (Nat × Nat)) (w : World) (w0 : (Lit.int .u8 a0).wf = true) (w1 : IsPairs w a1 len1 ps) :
    Calls Yba.prog 3 #[.int .u8 a0, .slice a1 len1 cap1] w fun e w' => e = .returned (.bool true) ∧ Below w.heap.size w w' := by
  obtain ⟨rfl, hps, hcell⟩ := w1
  by_cases hl : 1024 < ps.length
  · exact law_long a0 a1 ps.length cap1 w hl
  · have hb := bounds_u8 w0
    obtain ⟨m, rfl⟩ := Int.eq_ofNat_of_zero_le hb.1
    exact law_walk m (by omega) a1 cap1 ps w (by omega) hps hcell

/-! ### THE ROW's STEP: WRITTEN OUT: LEAVE IT -/
set_option maxRecDepth 100000 in
theorem lifted (os : Os) (started : os.Started) (H : Type) (enc : TypeId × Value → H) :
    ReturnsInHanded {} Yba.checked os 3 .any (Rows.lawS2036AGreedyTopoSpec.pre6 enc Yba.prog Yba.f3 Rows.lawS2036AGreedyTopoRow.domain false) (Rows.lawS2036AGreedyTopoSpec.post enc Yba.prog Yba.f3 false true false false) := by
  refine returnsInHanded_of_change (C := Yba.checked) own started (by kernel_rfl) Yba.func3
    (ChangeSpec.witness6 (enc := enc) (C := Yba.checked) false ⟨#[], #[.int .u8 0, .slice none 0 0], []⟩ 8 (by kernel_rfl) (by kernel_rfl) (by kernel_rfl) (by kernel_rfl)) ?_
  intro W base args ds gs before hval0 hW hcnd _
  have hval : ∀ (j : Nat) t v, Yba.f3.params[j]? = some t → args[j]? = some v → Value.okWide Yba.prog W .any base t v := hval0
  have hW' := hW
  obtain ⟨p, q, hA0, hV, rfl, hfz, hnd⟩ := hW
  have hA : DataW.TrodAll enc Yba.prog W 0 (fun _ => true) true Yba.f3.params.toList args.toList ds p := hA0
  rw [Yba.params3] at hA hval
  obtain ⟨v0, vs0, d0, ds0, p0, q0, hargs, rfl, rfl, h0, r0⟩ := trodAll_cons hA
  obtain ⟨v1, vs1, d1, ds1, p1, q1, rfl, rfl, rfl, h1, r1⟩ := trodAll_cons r0
  obtain ⟨rfl, rfl, rfl⟩ := trodAll_nil r1
  obtain rfl : args = #[v0, v1] := by cases args; simp_all
  obtain ⟨rfl, rfl⟩ := trodVars_none hV
  obtain ⟨a0, rfl, rfl, rfl, w0⟩ := open_int Yba.underlying5 (hval 0 5 v0 rfl rfl) h0
  obtain ⟨a1, len1, cap1, rfl⟩ := okWide_slice Yba.underlying22 (hval 1 22 v1 rfl rfl)
  have k1 := h1
  have lt1 : ∀ x ∈ p1, x.block < W.heap.size := by obtain ⟨m, hm⟩ := k1; exact DataW.trod_lt m _ _ _ hm
  obtain ⟨z1, w1⟩ : ∃ zs, IsPairs W a1 len1 zs := by
    obtain ⟨fuel, hf⟩ := h1
    rcases Deep.open_slice_pairs Yba.underlying22 Yba.underlying26 (by kernel_rfl) rfl rfl (by kernel_rfl) (by kernel_rfl) hf with ⟨hcs, _⟩ | ⟨x, l, c, m, n, V0, V1, D0, D1, P0, P1, hcs, _, hl, hm, hz, _, hcell⟩
    · simp [Value.cells] at hcs
      obtain ⟨rfl, rfl, rfl⟩ := hcs
      exact ⟨[], rfl, by simp, .inl rfl⟩
    · simp [Value.cells] at hcs
      obtain ⟨rfl, rfl, rfl⟩ := hcs
      have hlm : len1 ≤ m := by rw [hz]; simp; exact hl
      have hV : ∀ i, i < m → ∃ e : Nat × Nat, (e.1 < 65536 ∧ e.2 < 65536) ∧ W.cell? (x.add (i * 2)) = some (.int .u16 (e.1 : Int)) ∧ W.cell? (x.add (i * 2 + 1)) = some (.int .u16 (e.2 : Int)) := by
        intro i hi
        obtain ⟨c0, c1, t0, t1⟩ := hcell i hi
        obtain ⟨z0, e0, _, b0⟩ := DataW.trod_int Yba.underlying24 t0
        obtain ⟨y0, e1, _, b1⟩ := DataW.trod_int Yba.underlying24 t1
        simp at e0 e1
        have g0 := bounds_u16 b0
        have g1 := bounds_u16 b1
        obtain ⟨n0, rfl⟩ := Int.eq_ofNat_of_zero_le g0.1
        obtain ⟨n1, rfl⟩ := Int.eq_ofNat_of_zero_le g1.1
        exact ⟨(n0, n1), ⟨by dsimp only; omega, by dsimp only; omega⟩, by rw [c0, e0], by rw [c1, e1]⟩
      obtain ⟨f, hf2⟩ := Deep.choose_lt hV
      refine ⟨(List.range len1).map f, by simp, ?_, ?_⟩
      · intro e he
        simp only [List.mem_map, List.mem_range] at he
        obtain ⟨i, hi, rfl⟩ := he
        exact (hf2 i (by omega)).1
      · by_cases h0' : len1 = 0
        · left; simp [h0']
        · right
          obtain ⟨b, off, spot⟩ := x
          have hspot : spot = none := by simpa [Addr.add] using World.cell?_spot (hf2 0 (by omega)).2.1
          subst hspot
          refine ⟨b, off, rfl, fun i e he => ?_⟩
          have hi : i < len1 := by
            obtain ⟨h, _⟩ := List.getElem?_eq_some_iff.1 he
            simpa using h
          simp [hi] at he
          subst he
          have := (hf2 i (by omega)).2
          rw [add_plain, add_plain] at this
          simpa [Nat.add_assoc] using this
  clear hA0 hval0
  refine (walk a0 a1 len1 cap1 z1 W w0 w1).mono fun e W' ⟨he, bel⟩ => ?_
  subst he
  exact ⟨_, rfl, _, _, _, [], _, [], hW', trodAll_mk1 (shut_bool Yba.underlying4 _), (trodAll_cons_mk (shut_int Yba.underlying5 w0) (trodAll_cons_mk (Below.trod laidOut (by kernel_rfl) (of_decide_eq_true (by kernel_rfl)) k1 bel lt1) trodAll_mk0)), rfl, bel.frame _, fun h => by cases h⟩

theorem over : Rows.lawS2036AGreedyTopoRow.holds Yba.pinned (OpenSpec.ofChange Rows.lawS2036AGreedyTopoSpec) :=
  OpenClaim.holds_of_wide 3 Yba.f3 rfl rfl rfl rfl rfl rfl rfl ⟨rfl, rfl, rfl, rfl, rfl⟩ rfl rfl rfl rfl rfl (by kernel_rfl) Yba.func3 (by kernel_rfl)
    (of_decide_eq_true (by kernel_rfl)) (by unfold Func.isWrapper; first | (rw [if_pos (by decide +kernel)]; kernel_rfl) | (rw [if_neg (by decide +kernel)]; exact ⟨rfl, rfl⟩))
    (fun os started H enc _ => lifted os started H enc)

/-- ████ THE STATEMENT ████ -/
theorem proved : Rows.LawS2036AGreedyTopoSaid := over
#print axioms proved
end Go.Proofs.Ybulkapdi.lawS2036AGreedyTopo
