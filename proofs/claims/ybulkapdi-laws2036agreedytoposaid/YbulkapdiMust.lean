import Derived.Test.YbulkapdiState
import Derived.Deep.RegionHeld3
import Derived.Deep.DrawnRows
namespace Go.Proofs.Ybulkapdi
open Go.RowKit
attribute [local go_sem ↓] Go.wp_at_zero Go.wp_at_succ

theorem hide {p : Prop} (h : p) : Hid p := h
theorem unhide {p : Prop} (h : Hid p) : p := h

theorem addAll_none_append {n : Nat} {es fs : List (Nat × Nat)} {R : Nat → Nat → Nat} (h : addAll n es R = none) : addAll n (es ++ fs) R = none := by
  rw [addAll_append, h]; rfl

theorem edgesTo_split (preds : Nat → List Nat) (placed : Nat → Bool) (t m : Nat) (h : t ≤ m) : ∃ fs, edgesTo preds placed m = edgesTo preds placed t ++ fs := by
  induction m with
  | zero => have : t = 0 := by omega
            subst this; exact ⟨[], by simp⟩
  | succ m ih =>
    by_cases e : t = m + 1
    · subst e; exact ⟨[], by simp⟩
    · obtain ⟨fs, hfs⟩ := ih (by omega)
      exact ⟨fs ++ edgeOf placed m (preds m), by rw [edgesTo_succ, hfs, List.append_assoc]⟩

theorem edgeOf_take_succ {placed : Nat → Bool} {t j p : Nat} {l : List Nat} (hp : l[j]? = some p) (ht : placed t = false) :
    edgeOf placed t (l.take (j + 1)) = edgeOf placed t (l.take j) ++ (if placed p = true then [] else [(p, t)]) := by
  have e : l.take (j + 1) = l.take j ++ [p] := by rw [List.take_add_one, hp]; rfl
  rw [e]
  unfold edgeOf
  simp only [ht, Bool.false_eq_true, if_false, List.filter_append, List.map_append]
  cases h : placed p <;> simp [h]

/-- The search fails at this edge: so it fails. -/
theorem fails_at {preds : Nat → List Nat} {placed : Nat → Bool} {m t j p : Nat} {R : Nat → Nat → Nat} (ht : t < m) (hpt : placed t = false) (hp : (preds t)[j]? = some p) (hpp : placed p = false)
    (hall : addAll m (edgesTo preds placed t ++ edgeOf placed t ((preds t).take j)) (fun _ _ => 0) = some R) (hr : rel R t p = true) :
    addAll m (edgesTo preds placed m) (fun _ _ => 0) = none := by
  obtain ⟨fs, hfs⟩ := edgesTo_split preds placed (t + 1) m (by omega)
  have hsp : edgeOf placed t (preds t) = edgeOf placed t ((preds t).take (j + 1)) ++ edgeOf placed t ((preds t).drop (j + 1)) := by
    have : edgeOf placed t (preds t) = edgeOf placed t ((preds t).take (j + 1) ++ (preds t).drop (j + 1)) := by rw [List.take_append_drop]
    rw [this]; unfold edgeOf; simp only [hpt, Bool.false_eq_true, if_false, List.filter_append, List.map_append]
  rw [hfs, edgesTo_succ, hsp, edgeOf_take_succ hp hpt, hpp]
  simp only [Bool.false_eq_true, if_false]
  have : addAll m (edgesTo preds placed t ++ edgeOf placed t ((preds t).take j) ++ [(p, t)]) (fun _ _ => 0) = none := by
    rw [addAll_append, hall]
    simp [addAll, hr]
  have h2 := addAll_none_append (fs := edgeOf placed t ((preds t).drop (j + 1)) ++ fs) this
  simpa [List.append_assoc] using h2

theorem goes_on {placed : Nat → Bool} {m t j p : Nat} {R : Nat → Nat → Nat} {es : List (Nat × Nat)} {l : List Nat} (hpt : placed t = false) (hp : l[j]? = some p) (hpp : placed p = false)
    (hall : addAll m (es ++ edgeOf placed t (l.take j)) (fun _ _ => 0) = some R) (hr : rel R t p = false) :
    addAll m (es ++ edgeOf placed t (l.take (j + 1))) (fun _ _ => 0) = some (addR R p t m) := by
  rw [edgeOf_take_succ hp hpt, hpp, ← List.append_assoc, addAll_append, hall]
  simp [addAll, hr]

theorem goes_by {placed : Nat → Bool} {m t j p : Nat} {R : Nat → Nat → Nat} {es : List (Nat × Nat)} {l : List Nat} (hpt : placed t = false) (hp : l[j]? = some p) (hpp : placed p = true)
    (hall : addAll m (es ++ edgeOf placed t (l.take j)) (fun _ _ => 0) = some R) :
    addAll m (es ++ edgeOf placed t (l.take (j + 1))) (fun _ _ => 0) = some R := by
  rw [edgeOf_take_succ hp hpt, hpp]
  simpa using hall

def boolNat : Value → Nat | .bool true => 1 | _ => 0

def MustPost (o : Option (Nat → Nat → Nat)) (B m W : Nat) (e : Ending) (w' : World) : Prop :=
  match o with
  | none => e = .returned (.tuple #[.slice none 0 0, .bool false])
  | some R => e = .returned (.tuple #[.slice (some ⟨B + 1, 0, none⟩) m m, .bool true]) ∧ Prec w' (B + 1) B m W R ∧ B + 1 < w'.heap.size

set_option maxRecDepth 100000 in
set_option maxHeartbeats 2000000 in
theorem must_any (σ : Shape) (B0 m W : Nat) (preds : Nat → List Nat) (placed : Nat → Bool) (w : World) (h : SS w σ B0 m preds placed) (h1 : 1 ≤ m) (hm : m ≤ 255) (hW : W = (m + 63) / 64)
    (hlen : ∀ t, t < m → (preds t).length ≤ 100000) (hpr : ∀ t p, t < m → p ∈ preds t → p < m ∧ p ≠ t) :
    Calls Yba.prog 22 #[.pointer (some ⟨σ.bs, 0, none⟩)] w fun e w' =>
      MustPost (addAll m (edgesTo preds placed m) (fun _ _ => 0)) w.heap.size m W e w' ∧ Below w.heap.size w w' := by
  have HW := hide hW
  clear hW
  have g0 := h.f0
  have g1 := h.f1
  have g2 := h.f2
  have g3 := h.f3
  have g5 := h.f5
  go_enter Yba.func22, Yba.ntmps22
  go_wp2_with (go_at_call 31; refine (newP_any _ _ _ h1 hm (unhide HW)).mono ?_; rintro e w1 ⟨rfl, hP1, hB1, hz1⟩; have k3 := cell_below hB1 g3)
  clear g0 g1 g2 g3 g5 k3
  go_loopw [34] (fun i wr => ∃ (t : Nat) (R : Nat → Nat → Nat), t ≤ m ∧ i = .int .i64 t ∧ Hid (addAll m (edgesTo preds placed t) (fun _ _ => 0) = some R) ∧ Prec wr (w.heap.size + 1) w.heap.size m W R ∧ Below w.heap.size w wr ∧ w.heap.size + 1 < wr.heap.size) (fun i _ => m - (intOf i).toNat)
  case atStart => exact ⟨0, _, by omega, rfl, rfl, hP1, hB1, hz1⟩
  case round =>
    obtain ⟨t, R, ht, rfl, hall, hP, hB, hz⟩ := hrel
    have hS := h.below hB
    have g0 := hS.f0
    have g1 := hS.f1
    have g2 := hS.f2
    have g3 := hS.f3
    have g5 := hS.f5
    by_cases hlt : t < m
    · have gp := hS.part t hlt
      have gl := hS.plc t hlt
      cases hpt : placed t
      · rw [hpt] at gl
        have HPT : Hid (placed t = false) := hpt
        clear hpt
        obtain ⟨ao, cap, hpv, hcase⟩ := h.look t hlt
        have gq := hS.prd t hlt
        rw [hpv] at gq
        clear hpv
        have hll := hlen t hlt
        go_wp2_with fail
        go_loopw [53] (fun i wr => ∃ (j : Nat) (R : Nat → Nat → Nat), j ≤ (preds t).length ∧ i = .int .i64 j ∧ Hid (addAll m (edgesTo preds placed t ++ edgeOf placed t ((preds t).take j)) (fun _ _ => 0) = some R) ∧ Prec wr (w.heap.size + 1) w.heap.size m W R ∧ Below w.heap.size w wr ∧ w.heap.size + 1 < wr.heap.size) (fun i _ => (preds t).length - (intOf i).toNat)
        case atStart => exact ⟨0, R, by omega, rfl, by simpa [edgeOf, HPT.out] using hall, hP, hB, hz⟩
        case round =>
          clear g0 g1 g2 g3 g5 gp gl gq hP hB hz hall hS
          obtain ⟨j, R, hj, rfl, hall, hP, hB, hz⟩ := hrel
          have hS := h.below hB
          have g0 := hS.f0
          have g1 := hS.f1
          have g2 := hS.f2
          have g3 := hS.f3
          have g5 := hS.f5
          by_cases hjl : j < (preds t).length
          · obtain ⟨g, rfl, hcell⟩ := hcase.resolve_left (by omega)
            obtain ⟨p, hp⟩ : ∃ p, (preds t)[j]? = some p := ⟨_, List.getElem?_eq_getElem hjl⟩
            have HP := hide hp
            have hcj := cell_below hB (hcell j p hp)
            obtain ⟨hpm, hpt2⟩ := hpr t p hlt (List.mem_of_getElem? hp)
            clear hp hcell hcase
            have gpp := hS.plc p hpm
            have glp := hS.loc p hpm
            have glt := hS.loc t hlt
            cases hpp : placed p
            · rw [hpp] at gpp
              have HPP := hide hpp
              clear hpp
              have l2 := World.block_lt_of_cell? _ _ h.f2
              have l5 := World.block_lt_of_cell? _ _ h.f5
              have lp := World.block_lt_of_cell? _ _ (h.plc p hpm)
              have lo := World.block_lt_of_cell? _ _ (h.loc p hpm)
              go_wp2_with fail
              go_region_held3 (fun w' => w'.cell? ⟨σ.bs, 2, none⟩ = some (.slice (some ⟨σ.bpl, 0, none⟩) m m) ∧ w'.cell? ⟨σ.bs, 5, none⟩ = some (.slice (some ⟨σ.blo, 0, none⟩) m m) ∧ w'.cell? ⟨σ.bpl, p, none⟩ = some (.bool false) ∧ w'.cell? ⟨σ.blo, p, none⟩ = some (.int .i64 p) ∧ w'.cell? ⟨σ.blo, t, none⟩ = some (.int .i64 t))
                (first | go_keep | (rename_i hBn; exact ⟨(hBn.cell l2).trans g2, (hBn.cell l5).trans g5, (hBn.cell lp).trans gpp, (hBn.cell lo).trans glp, (hBn.cell lo).trans glt⟩))
                (first | (go_at_call 32; refine (add_any w.heap.size _ _ _ W R _ _ _ (hP.drewN 1) hpm hlt hpt2 (by omega) hm).mono ?_; rintro e w' ⟨rfl, hP', hBn⟩))
              have hB2 : Below w.heap.size w w' := (belowDrewN hB 1).trans hBn
              have hz2 : w.heap.size + 1 < w'.heap.size := Nat.lt_of_lt_of_le hz hBn.size
              clear g0 g1 g2 g3 g5 gpp glp glt hcj l2 l5 lp lo hBn hP
              cases hr : rel R t p
              · go_wp2_with fail
                have := goes_on HPT.out (unhide HP) (unhide HPP) hall.out hr
                go_roundw
                case rel => exact ⟨j + 1, _, by omega, by go_num, this, hP', hB2, hz2⟩
                case measure => simp [intOf]; omega
              · go_wp2_with fail
                go_ret2
                rw [fails_at hlt HPT.out (unhide HP) (unhide HPP) hall.out hr]
                exact ⟨rfl, hB2⟩
            · rw [hpp] at gpp
              have HPP := hide hpp
              clear hpp
              go_wp2_with fail
              go_quiet (fail)
              go_wp2_with fail
              go_roundw
              case rel => exact ⟨j + 1, R, by omega, by go_num, goes_by HPT.out (unhide HP) (unhide HPP) hall.out, hP.drewN _, belowDrewN hB _, hz⟩
              case measure => simp [intOf]; omega
          · have gh := hS.h1
            have gr := hS.reads t hlt
            go_wp2_with fail
            refine wp_loop_rounds 1 ?_
            rw [rounds_succ]
            go_wp2_with fail
            have ej : (preds t).take j = preds t := List.take_of_length_le (by omega)
            rw [ej, ← edgesTo_succ] at hall
            go_roundw
            case rel => exact ⟨t + 1, R, by omega, by go_num, hall, hP, hB, hz⟩
            case measure => simp [intOf]; omega
      · rw [hpt] at gl
        have HPT := hide hpt
        clear hpt
        go_wp2_with fail
        go_roundw
        case rel => exact ⟨t + 1, R, by omega, by go_num, by rw [edgesTo_succ]; simpa [edgeOf, unhide HPT] using hall, hP, hB, hz⟩
        case measure => simp [intOf]; omega
    · have : t = m := by omega
      subst this
      have gh := hS.h1
      go_wp2_with fail
      go_loop [13] (fun c => c = .bool true ∨ c = .bool false) (fun c => boolNat c)
      case atStart => exact Or.inl rfl
      case round =>
        rcases hrel with rfl | rfl
        · go_wp2_with fail
          go_loop [13, 189] (fun c i => c = .bool false ∧ ∃ k : Nat, k ≤ t ∧ i = .int .i64 k) (fun _ i => t - (intOf i).toNat)
          case atStart => exact ⟨rfl, 0, by omega, rfl⟩
          case round =>
            obtain ⟨rfl, k, hk, rfl⟩ := hrel
            by_cases hkt : k < t
            · have gp := hS.part k hkt
              have gr := hS.reads k hkt
              go_wp2_with fail
              refine wp_loop_rounds 1 ?_
              rw [rounds_succ]
              go_wp2_with fail
              go_round
              case rel => exact ⟨rfl, k + 1, by omega, by go_num⟩
              case measure => simp [intOf]; omega
            · go_wp2_with fail
              go_round
              case rel => exact Or.inr rfl
              case measure => simp [boolNat]
        · go_wp2_with fail
          go_ret2
          rw [hall.out]
          exact ⟨⟨rfl, hP, hz⟩, hB⟩

end Go.Proofs.Ybulkapdi
