/- The statement LawS2036BUnlinksSaid out of the walk. After the guide's shell. -/
import Derived.Test.YbulkapdiRows
import Derived.WalkKit
import Derived.ProofKit
import Derived.OpenShut
import Derived.ShutString
import Derived.ChangeOld
import Derived.Below
import Derived.SliceStrings
import Derived.Test.YbulkapdiKLaw
namespace Go.Proofs.Ybulkapdi.lawS2036BUnlinks
open Go.ChangeShapes Go.WideShapes Go.ChangeAt Go.RowKit
open Go.ChangeMaps (open_string shut_string)
set_option linter.unusedVariables false

theorem own : ownKnob Yba.prog.godebug = none := by kernel_rfl
theorem laidOut : laidOutB Yba.prog = true := by kernel_rfl

/-- What the walk is told of a slice of integers that came in. -/
def IsRow (k : IntKind) (w : World) (a : Option Addr) (len cap : Nat) (zs : List Int) : Prop :=
  (a = none ∧ len = 0 ∧ cap = 0 ∧ zs = []) ∨
  ∃ x, a = some x ∧ len ≤ cap ∧ cap ≤ maxLen ∧ zs.length = cap ∧ (∀ i, i < zs.length → w.cell? (x.add i) = some (.int k (zs.getD i 0))) ∧ ∀ n ∈ zs, (Lit.int k n).wf = true

theorem isR_of {w : World} {a : Option Addr} {len cap : Nat} {zs : List Int} (h : IsRow .u64 w a len cap zs) : K.IsR w a len cap (zs.take len) := by
  rcases h with ⟨rfl, rfl, rfl, rfl⟩ | ⟨x, rfl, hl, _, hz, hc, _⟩
  · exact ⟨rfl, Or.inl ⟨rfl, rfl, rfl⟩⟩
  · refine ⟨by simp; omega, Or.inr ⟨x, rfl, fun i z hi => ?_⟩⟩
    have hlt : i < (zs.take len).length := (List.getElem?_eq_some_iff.1 hi).1
    simp only [List.length_take] at hlt
    rw [List.getElem?_take_of_lt (by omega)] at hi
    rw [hc i (by omega), List.getD, hi]; rfl

/-- What the walk is told of a slice of strings that came in. -/
def IsStrs (w : World) (a : Option Addr) (len : Nat) (ss : List ByteArray) : Prop :=
  ss.length = len ∧ (∀ s ∈ ss, s.size ≤ 9223372036854775807) ∧
  (ss = [] ∨ ∃ b off, a = some ⟨b, off, none⟩ ∧ ∀ (i : Nat) (s : ByteArray), ss[i]? = some s → w.cell? ⟨b, off + i, none⟩ = some (.string s))

theorem walk (a0 : Option Addr) (len0 cap0 : Nat) (z0 : List ByteArray) (a1 a2 : Int) (a3 : Option Addr) (len3 cap3 : Nat) (z3 : List Int) (a4 : Option Addr) (len4 cap4 : Nat) (z4 : List Int) (w : World) (w0 : IsStrs w a0 len0 z0) (w1 : (Lit.int .u8 a1).wf = true)
    (w3 : IsRow .u64 w a3 len3 cap3 z3) (w4 : IsRow .u64 w a4 len4 cap4 z4) :
    Calls Yba.prog 4 #[.slice a0 len0 cap0, .int .u8 a1, .int .u64 a2, .slice a3 len3 cap3, .slice a4 len4 cap4] w fun e w' => e = .returned (.bool true) ∧ Below w.heap.size w w' := by
  obtain ⟨rfl, hsz, hcell⟩ := w0
  by_cases hl : 256 < z0.length ∨ 256 < len3 ∨ 256 < len4
  · exact K.law_long a1 a2 a0 a3 a4 z0.length cap0 len3 cap3 len4 cap4 w hl
  · have hb := bounds_u8 w1
    obtain ⟨sel, rfl⟩ := Int.eq_ofNat_of_zero_le hb.1
    exact K.law_walk sel a2 a0 a3 a4 cap0 cap3 cap4 len3 len4 z0 w (by omega) (by omega) (by omega) (by omega) _ _ (isR_of w3) (isR_of w4) hsz hcell

/-! ### THE ROW's STEP: WRITTEN OUT: LEAVE IT -/
set_option maxRecDepth 100000 in
theorem lifted (os : Os) (started : os.Started) (H : Type) (enc : TypeId × Value → H) :
    ReturnsInHanded {} Yba.checked os 4 .any (Rows.lawS2036BUnlinksSpec.pre6 enc Yba.prog Yba.f4 Rows.lawS2036BUnlinksRow.domain false) (Rows.lawS2036BUnlinksSpec.post enc Yba.prog Yba.f4 false true false false) := by
  refine returnsInHanded_of_change (C := Yba.checked) own started (by kernel_rfl) Yba.func4
    (ChangeSpec.witness6 (enc := enc) (C := Yba.checked) false ⟨#[], #[.slice none 0 0, .int .u8 0, .int .u64 0, .slice none 0 0, .slice none 0 0], []⟩ 8 (by kernel_rfl) (by kernel_rfl) (by kernel_rfl) (by kernel_rfl)) ?_
  intro W base args ds gs before hval0 hW hcnd _
  have hval : ∀ (j : Nat) t v, Yba.f4.params[j]? = some t → args[j]? = some v → Value.okWide Yba.prog W .any base t v := hval0
  have hW' := hW
  obtain ⟨p, q, hA0, hV, rfl, hfz, hnd⟩ := hW
  have hA : DataW.TrodAll enc Yba.prog W 0 (fun _ => true) true Yba.f4.params.toList args.toList ds p := hA0
  rw [Yba.params4] at hA hval
  obtain ⟨v0, vs0, d0, ds0, p0, q0, hargs, rfl, rfl, h0, r0⟩ := trodAll_cons hA
  obtain ⟨v1, vs1, d1, ds1, p1, q1, rfl, rfl, rfl, h1, r1⟩ := trodAll_cons r0
  obtain ⟨v2, vs2, d2, ds2, p2, q2, rfl, rfl, rfl, h2, r2⟩ := trodAll_cons r1
  obtain ⟨v3, vs3, d3, ds3, p3, q3, rfl, rfl, rfl, h3, r3⟩ := trodAll_cons r2
  obtain ⟨v4, vs4, d4, ds4, p4, q4, rfl, rfl, rfl, h4, r4⟩ := trodAll_cons r3
  obtain ⟨rfl, rfl, rfl⟩ := trodAll_nil r4
  obtain rfl : args = #[v0, v1, v2, v3, v4] := by cases args; simp_all
  obtain ⟨rfl, rfl⟩ := trodVars_none hV
  obtain ⟨a0, len0, cap0, rfl⟩ := okWide_slice Yba.underlying40 (hval 0 40 v0 rfl rfl)
  have k0 := h0
  have lt0 : ∀ x ∈ p0, x.block < W.heap.size := by obtain ⟨m, hm⟩ := k0; exact DataW.trod_lt m _ _ _ hm
  obtain ⟨z0, w0⟩ : ∃ zs, IsStrs W a0 len0 zs := by
    obtain ⟨fuel, hf⟩ := h0
    rcases open_strings Yba.underlying40 Yba.underlying9 (by kernel_rfl) hf with ⟨hcs, _⟩ | ⟨x, l, c, ss, hcs, _, hl, hm, hz, _, hcell, hws⟩
    · simp [Value.cells] at hcs
      obtain ⟨rfl, rfl, rfl⟩ := hcs
      exact ⟨[], rfl, by simp, .inl rfl⟩
    · simp [Value.cells] at hcs
      obtain ⟨rfl, rfl, rfl⟩ := hcs
      have hlen : len0 ≤ ss.length := by rw [hz]; simp; exact hl
      refine ⟨ss.take len0, by simp; omega, fun s hs => hws s (List.mem_of_mem_take hs), ?_⟩
      by_cases h0' : len0 = 0
      · left; simp [h0']
      · right
        obtain ⟨b, off, spot⟩ := x
        have hspot : spot = none := by simpa [Addr.add] using World.cell?_spot (hcell 0 (by omega))
        subst hspot
        refine ⟨b, off, rfl, fun i s hi => ?_⟩
        have hlt : i < (ss.take len0).length := (List.getElem?_eq_some_iff.1 hi).1
        simp only [List.length_take] at hlt
        rw [List.getElem?_take_of_lt (by omega)] at hi
        have := hcell i (by omega)
        rw [add_plain, List.getD, hi] at this
        exact this
  obtain ⟨a1, rfl, rfl, rfl, w1⟩ := open_int Yba.underlying5 (hval 1 5 v1 rfl rfl) h1
  obtain ⟨a2, rfl, rfl, rfl, w2⟩ := open_int Yba.underlying41 (hval 2 41 v2 rfl rfl) h2
  obtain ⟨a3, len3, cap3, rfl⟩ := okWide_slice Yba.underlying42 (hval 3 42 v3 rfl rfl)
  have k3 := h3
  have lt3 : ∀ x ∈ p3, x.block < W.heap.size := by obtain ⟨m, hm⟩ := k3; exact DataW.trod_lt m _ _ _ hm
  obtain ⟨z3, w3⟩ : ∃ zs, IsRow .u64 W a3 len3 cap3 zs := by
    obtain ⟨fuel, hf⟩ := h3
    rcases open_ints Yba.underlying42 Yba.underlying41 (by kernel_rfl) hf with ⟨hcs, _⟩ | ⟨x, l, c, zs, hcs, _, hl, hm, hz, _, hcell, hwz⟩
    · simp [Value.cells] at hcs
      obtain ⟨rfl, rfl, rfl⟩ := hcs
      exact ⟨[], .inl ⟨rfl, rfl, rfl, rfl⟩⟩
    · simp [Value.cells] at hcs
      obtain ⟨rfl, rfl, rfl⟩ := hcs
      exact ⟨zs, .inr ⟨_, rfl, hl, hm, by simpa using hz, hcell, hwz⟩⟩
  obtain ⟨a4, len4, cap4, rfl⟩ := okWide_slice Yba.underlying42 (hval 4 42 v4 rfl rfl)
  have k4 := h4
  have lt4 : ∀ x ∈ p4, x.block < W.heap.size := by obtain ⟨m, hm⟩ := k4; exact DataW.trod_lt m _ _ _ hm
  obtain ⟨z4, w4⟩ : ∃ zs, IsRow .u64 W a4 len4 cap4 zs := by
    obtain ⟨fuel, hf⟩ := h4
    rcases open_ints Yba.underlying42 Yba.underlying41 (by kernel_rfl) hf with ⟨hcs, _⟩ | ⟨x, l, c, zs, hcs, _, hl, hm, hz, _, hcell, hwz⟩
    · simp [Value.cells] at hcs
      obtain ⟨rfl, rfl, rfl⟩ := hcs
      exact ⟨[], .inl ⟨rfl, rfl, rfl, rfl⟩⟩
    · simp [Value.cells] at hcs
      obtain ⟨rfl, rfl, rfl⟩ := hcs
      exact ⟨zs, .inr ⟨_, rfl, hl, hm, by simpa using hz, hcell, hwz⟩⟩
  clear hA0 hval0
  refine (walk a0 len0 cap0 z0 a1 a2 a3 len3 cap3 z3 a4 len4 cap4 z4 W w0 w1 w3 w4).mono fun e W' ⟨he, bel⟩ => ?_
  subst he
  exact ⟨_, rfl, _, _, _, [], _, [], hW', trodAll_mk1 (shut_bool Yba.underlying4 _), (trodAll_cons_mk (Below.trod laidOut (by kernel_rfl) (of_decide_eq_true (by kernel_rfl)) k0 bel lt0) (trodAll_cons_mk (shut_int Yba.underlying5 w1) (trodAll_cons_mk (shut_int Yba.underlying41 w2) (trodAll_cons_mk (Below.trod laidOut (by kernel_rfl) (of_decide_eq_true (by kernel_rfl)) k3 bel lt3) (trodAll_cons_mk (Below.trod laidOut (by kernel_rfl) (of_decide_eq_true (by kernel_rfl)) k4 bel lt4) trodAll_mk0))))), rfl, bel.frame _, fun h => by cases h⟩

theorem over : Rows.lawS2036BUnlinksRow.holds Yba.pinned (OpenSpec.ofChange Rows.lawS2036BUnlinksSpec) :=
  OpenClaim.holds_of_wide 4 Yba.f4 rfl rfl rfl rfl rfl rfl rfl ⟨rfl, rfl, rfl, rfl, rfl⟩ rfl rfl rfl rfl rfl (by kernel_rfl) Yba.func4 (by kernel_rfl)
    (of_decide_eq_true (by kernel_rfl)) (by unfold Func.isWrapper; first | (rw [if_pos (by decide +kernel)]; kernel_rfl) | (rw [if_neg (by decide +kernel)]; exact ⟨rfl, rfl⟩))
    (fun os started H enc _ => lifted os started H enc)

/-- ████ THE STATEMENT ████ -/
theorem proved : Rows.LawS2036BUnlinksSaid := over
#print axioms proved
end Go.Proofs.Ybulkapdi.lawS2036BUnlinks
