import Derived.Test.YbulkapdwFrom
import Derived.Deep.DeepCutAuto
import Derived.Deep.CutBlock
import Derived.Deep.RegionLaw
namespace Go.Proofs.Ybulkapdw
open Go.RowKit

/-- What the walk is told of the slice of items. -/
def Items (w : World) (a : Option Addr) (ps : List (Nat × Bool)) : Prop :=
  ps = [] ∨ ∃ b off, a = some ⟨b, off, none⟩ ∧ ∀ (i : Nat) (e : Nat × Bool), ps[i]? = some e → w.cell? ⟨b, off + i * 2, none⟩ = some (.int .u8 (e.1 : Int)) ∧ w.cell? ⟨b, off + i * 2 + 1, none⟩ = some (.bool e.2)

def flTo (ps : List (Nat × Bool)) (t : Nat) : List Bool := (ps.filter (fun e => e.1 % 160 == t)).map (·.2)
theorem flTo_len (ps : List (Nat × Bool)) (t : Nat) : (flTo ps t).length ≤ ps.length := by
  simp only [flTo, List.length_map]
  exact List.length_filter_le _ _

def isNilSlice : Option Value → Bool
  | some (.slice none 0 0) => true
  | _ => false
theorem isNilSlice_eq {v : Option Value} (h : isNilSlice v = true) : v = some (.slice none 0 0) := by
  unfold isNilSlice at h
  split at h
  · rfl
  · cases h
def nilsAt : Option (Option Value) → Bool
  | some (some (.agg cs)) => (List.range 160).all fun t => isNilSlice cs[23 + t]?
  | _ => false
theorem nilsAt_44 : nilsAt ((Yba.prog.info? 44).map (fun i => i.zero)) = true := by kernel_rfl
theorem zeros44 : ∃ j Z, Yba.prog.info? 44 = some j ∧ j.zero = some (.agg Z) ∧ ∀ t, t < 160 → Z[23 + t]? = some (.slice none 0 0) := by
  have h := nilsAt_44
  cases hj : Yba.prog.info? 44 with
  | none => rw [hj] at h; cases h
  | some j =>
    rw [hj] at h
    simp only [Option.map_some] at h
    unfold nilsAt at h
    split at h
    · rename_i cs e
      exact ⟨j, cs, rfl, by simpa using e, fun t ht => isNilSlice_eq (List.all_eq_true.1 h t (List.mem_range.2 ht))⟩
    · cases h

theorem TB.push {w0 w w' : World} {bt : Nat} {fl : Nat → List Bool} {pv : Nat → Value} (h : TB w0 w bt fl pv) (b : Nat) (s : Bool) (hb : b < 160) {v' : Value} {g : Nat} (hv' : v'.ownBlock = some g)
    (hg : w.grownBy w' (pv b).ownBlock) (ho : w'.ownsRow w0.heap.size 58 25 v' ((fl b).length + 1) (ents (fl b) ++ ent s)) (hat : (pv b).ownBlock = some g ∨ w.heap.size ≤ g) :
    TB w0 (w'.setCell ⟨bt, 23 + b, none⟩ v') bt (fun t => if t = b then fl t ++ [s] else fl t) (fun t => if t = b then v' else pv t) := by
  have cg : ∀ t, t < 160 → w'.cell? ⟨bt, 23 + t, none⟩ = some (pv t) := fun t ht => cell_grown hg (h.cell t ht) (fun g' hg' e => h.ne b hb (by rw [hg', e]))
  have gne : g ≠ bt := by
    rcases hat with e | e
    · intro e2; exact h.ne b hb (by rw [e, e2])
    · have := h.size; omega
  have far : ∀ t, t < 160 → t ≠ b → (pv t).ownBlock ≠ some g := fun t ht hne e => by
    rcases hat with e2 | e2
    · exact h.apt t b ht hb hne g e e2
    · have := ((h.own t ht).lt g e).2; omega
  refine ⟨fun t ht => ?_, fun t ht => ?_, fun t ht => ?_, fun s t hs ht hst g' hg' => ?_, fun t ht => ?_, ?_, h.lo, ?_⟩
  · by_cases e : t = b
    · subst e; rw [World.cell?_setCell_same _ _ _ (cg t ht)]; simp
    · rw [World.cell?_setCell_other _ _ _ _ (fun e' => e (by have := congrArg Addr.off e'; simp at this; omega)), cg t ht]; simp [e]
  · rw [World.frozen?_setCell, hg.frozen_far _ (World.block_lt_of_cell? _ _ (h.cell t ht)) (fun e => h.ne b hb e.symm)]; exact h.free t ht
  · by_cases e : t = b
    · subst e
      simp only [if_true]
      refine ownsRow_set ?_ (by rw [hv']; simp; exact gne) _
      simpa [ents] using ho
    · simp only [e, if_false]
      refine ownsRow_set ((h.own t ht).kept hg ?_) (h.ne t ht) _
      cases e2 : (pv t).ownBlock with
      | none => exact Or.inl rfl
      | some g2 => exact Or.inr (fun e3 => h.apt t b ht hb e g2 e2 e3.symm)
  · by_cases e1 : s = b
    · simp only [e1, if_true] at hg'
      rw [hv'] at hg'
      have e2 : ¬ t = b := fun e2 => hst (by rw [e1, e2])
      simp only [e2, if_false]
      rw [← hg']; exact far t ht e2
    · simp only [e1, if_false] at hg'
      by_cases e2 : t = b
      · simp only [e2, if_true]
        rw [hv']
        intro e3
        exact far s hs e1 (by rw [e3]; exact hg')
      · simp only [e2, if_false]; exact h.apt s t hs ht hst g' hg'
  · by_cases e : t = b
    · simp only [e, if_true]; rw [hv']; simp; exact gne
    · simp only [e, if_false]; exact h.ne t ht
  · refine (h.below.grown hg h.below.size (fun k hk => ((h.own b hb).lt k hk).1)).setCell h.lo _
  · have := h.size; have := hg.size; simp; omega

theorem TB.congr {w0 w : World} {bt : Nat} {fl fl' : Nat → List Bool} {pv : Nat → Value} (h : TB w0 w bt fl pv) (e : ∀ t, fl t = fl' t) : TB w0 w bt fl' pv := by
  have : fl = fl' := funext e
  subst this; exact h

theorem flTo_snoc (ps : List (Nat × Bool)) (e : Nat × Bool) (t : Nat) : flTo (ps ++ [e]) t = if t = e.1 % 160 then flTo ps t ++ [e.2] else flTo ps t := by
  by_cases h : t = e.1 % 160
  · subst h; simp [flTo]
  · have h' : ¬ e.1 % 160 = t := fun e' => h e'.symm
    simp [flTo, h, h']

theorem keep_alloc {w : World} {B i g j : Nat} {v u : Value} (h : w.cell? ⟨B, i, none⟩ = some v ∧ w.frozen? ⟨B, i, none⟩ = false ∧ w.cell? ⟨g, j, none⟩ = some u) (o : Obj) :
    (w.alloc o).drew.cell? ⟨B, i, none⟩ = some v ∧ (w.alloc o).drew.frozen? ⟨B, i, none⟩ = false ∧ (w.alloc o).drew.cell? ⟨g, j, none⟩ = some u := by
  have hb : Below w.heap.size w (w.alloc o) := (Below.refl _ _).alloc (Nat.le_refl _) _
  exact ⟨cell_below hb h.1, (hb.frozen (World.block_lt_of_cell? _ _ h.1)).trans h.2.1, cell_below hb h.2.2⟩

theorem keep_grown {w w' : World} {B i g j : Nat} {v u : Value} {row : Option Nat} (h : w.cell? ⟨B, i, none⟩ = some v ∧ w.frozen? ⟨B, i, none⟩ = false ∧ w.cell? ⟨g, j, none⟩ = some u) (hg : w.grownBy w' row) (h1 : row ≠ some B) (h2 : row ≠ some g) :
    w'.cell? ⟨B, i, none⟩ = some v ∧ w'.frozen? ⟨B, i, none⟩ = false ∧ w'.cell? ⟨g, j, none⟩ = some u :=
  ⟨cell_grown hg h.1 (fun k hk e => h1 (by rw [hk, e])), (hg.frozen_far _ (World.block_lt_of_cell? _ _ h.1) (Ne.symm h1)).trans h.2.1, cell_grown hg h.2.2 (fun k hk e => h2 (by rw [hk, e]))⟩

theorem TB.pushed {w0 w1 w2 : World} {bt : Nat} {fl : Nat → List Bool} {pv : Nat → Value} (h : TB w0 w1 bt fl pv) (o : Obj) (b : Nat) (s : Bool) (hb : b < 160) {v : Value} {N : Nat} {X : List Value} (hv : pv b = v) (hN : (fl b).length = N) (hX : ents (fl b) = X) {g cap : Nat}
    (hg : (w1.alloc o).drew.grownBy w2 v.ownBlock) (ho : w2.ownsRow w0.heap.size 58 25 (.slice (some ⟨g, 0, none⟩) (N + 1) cap) (N + 1) (X ++ ent s)) (hat : v.ownBlock = some g ∨ g = w1.heap.size + 1) :
    TB w0 (w2.setCell ⟨bt, 23 + b, none⟩ (.slice (some ⟨g, 0, none⟩) (N + 1) cap)) bt (fun t => if t = b then fl t ++ [s] else fl t) (fun t => if t = b then .slice (some ⟨g, 0, none⟩) (N + 1) cap else pv t) := by
  subst hv hN hX
  have hb1 : Below w1.heap.size w1 (w1.alloc o) := (Below.refl _ _).alloc (Nat.le_refl _) _
  have hb2 : Below w1.heap.size w1 (w1.alloc o).drew := ⟨hb1.os, hb1.tape, hb1.output, hb1.size, hb1.block⟩
  refine (h.later hb2).push b s hb rfl hg ho ?_
  rcases hat with e | e
  · exact Or.inl e
  · right
    have : (w1.alloc o).drew.heap.size = w1.heap.size + 1 := by simp
    show (w1.alloc o).drew.heap.size ≤ g
    rw [this, e]; exact Nat.le_refl _

set_option maxRecDepth 100000 in
set_option maxHeartbeats 2000000 in
theorem build_any (ao : Option Addr) (cap : Nat) (ps : List (Nat × Bool)) (w : World) (hl : ps.length ≤ 1024) (hps : ∀ e ∈ ps, e.1 < 256) (hcell : Items w ao ps) :
    Calls Yba.prog 5 #[.slice ao ps.length cap] w fun e w' => ∃ bt pv, e = .returned (.pointer (some ⟨bt, 0, none⟩)) ∧ TB w w' bt (flTo ps) pv := by
  obtain ⟨j, Z, hj, hz0, hZ⟩ := zeros44
  have hzv : ∀ w : World, (zeroValue 44).run Yba.prog w = .ok (.agg Z) w := fun w => by simp [zeroValue, typeInfo, hj, hz0]
  have HZ := hide hZ
  clear hZ hz0 hj
  go_enter Yba.func5, Yba.ntmps5
  go_wp2_with fail
  have hT0 : TB w (w.alloc (.cells Z 44)) w.heap.size (flTo []) (fun _ => .slice none 0 0) :=
    ⟨fun t ht => by rw [World.cell?_alloc_new]; exact HZ.out t ht, fun t ht => by simp, fun t ht => World.ownsRow_nil _ _ _ _, (fun s t hs ht hst g hg => by simp [Value.ownBlock] at hg), fun t ht => by simp [Value.ownBlock], (Below.refl _ _).alloc (Nat.le_refl _) _, Nat.le_refl _, by simp⟩
  clear hzv HZ
  go_loopw [11] (fun i wr => ∃ (k : Nat) (pv : Nat → Value), k ≤ ps.length ∧ i = .int .i64 k ∧ TB w wr w.heap.size (flTo (ps.take k)) pv) (fun i _ => ps.length - (intOf i).toNat)
  case atStart =>
    exact ⟨0, _, by omega, rfl, by simpa using hT0⟩
  case round =>
    clear hT0
    obtain ⟨k, pv, hk, rfl, hT⟩ := hrel
    by_cases hlt : k < ps.length
    · rcases hcell with rfl | ⟨b0, off, rfl, hc⟩
      · simp at hlt
      obtain ⟨c0, c1⟩ := hc k ps[k] (by simp [hlt])
      have hlt0 := hps ps[k] (List.getElem_mem hlt)
      have htk : ps.take (k + 1) = ps.take k ++ [ps[k]] := by simp
      generalize he : ps[k] = e at c0 c1 hlt0 htk
      clear he
      obtain ⟨bk, st⟩ := e
      dsimp only at c0 c1 hlt0
      have c0' : wr.cell? ⟨b0, off + k * 2, none⟩ = some (.int .u8 (bk : Int)) := cell_below hT.below c0
      have c1' : wr.cell? ⟨b0, off + k * 2 + 1, none⟩ = some (.bool st) := cell_below hT.below c1
      clear c0 c1 hc
      go_upto_region 6 with fail
      have eb : ((bk : Int) % 160) = ((bk % 160 : Nat) : Int) := by omega
      have hb : bk % 160 < 160 := Nat.mod_lt _ (by decide)
      have hfl : Hid (∀ t, (if t = bk % 160 then flTo (ps.take k) t ++ [st] else flTo (ps.take k) t) = flTo (ps.take (k + 1)) t) := hide (fun t => by rw [htk, flTo_snoc])
      simp only [eb]
      clear eb htk
      generalize bk % 160 = b at hb hfl ⊢
      have hT1 := hT.later ((Below.refl wr.heap.size wr).alloc (Nat.le_refl _) (.cells #[.int .u8 (bk : Int), .bool st] 26))
      have c5 : (wr.alloc (.cells #[.int .u8 (bk : Int), .bool st] 26)).cell? ⟨wr.heap.size, 1, none⟩ = some (.bool st) := by simp
      have hnv : (pv b).ownBlock ≠ some wr.heap.size := fun e => by have := ((hT.own b hb).lt _ e).2; omega
      clear hT c0' c1'
      generalize wr.alloc (.cells #[.int .u8 (bk : Int), .bool st] 26) = w1 at hT1 c5 ⊢
      generalize hbv : wr.heap.size = vb at c5 hnv ⊢
      have lvb := World.block_lt_of_cell? _ _ c5
      have hcb := hT1.cell b hb
      have hfb := hT1.free b hb
      have hown := hT1.own b hb
      have hne := hT1.ne b hb
      have hsz := hT1.size
      have hlo := hT1.lo
      have hnl : (flTo (ps.take k) b).length ≤ 1024 := Nat.le_trans (flTo_len _ _) (by simp; omega)
      have hT1' := hide hT1
      have hz58 : ∀ w : World, (zeroValue 58).run Yba.prog w = .ok (.agg (ent false).toArray) w := fun w => by
        obtain ⟨i0, hi0, hz0, hz1, hz2⟩ := info_parts Yba.info58
        simp [zeroValue, typeInfo, hi0, hz0]
      simp only [ent] at hz58
      obtain ⟨i0, hi0, hz0, hz1, hz2⟩ := info_parts Yba.info58
      have hb0 : (0 : Int) ≤ (b : Int) := Int.natCast_nonneg _
      have hb1 : (b : Int) < 160 := by omega
      clear hT1 hbv
      generalize hN : (flTo (ps.take k) b).length = N at hnl hown
      generalize hX : ents (flTo (ps.take k) b) = X at hown
      replace hN := hide hN
      replace hX := hide hX
      generalize hpv : pv b = v at hne hnv hcb hown
      replace hpv := hide hpv
      go_region_law ((refine step_append_lies _ (by rfl) _ _ _ (by rfl) w.heap.size 58 i0 _ 25 64 Yba.underlying39 hi0 hz0 hz1 hz2 rfl (by omega) v N X (by rfl) ((hown.alloc _).drew) ⟨w1.heap.size, 0, none⟩ 1 1 (ent st) (by rfl) (by rfl) (World.news_of_block (cs := (ent st).toArray) (t := 58) (fr := (0, 0)) (heap_alloc_new w1 _)) (by simp [ent, Value.oneCell']) (by omega) (by unfold maxLen; omega) (by omega) (by simp; omega) (w1.heap.size + 1) (by simp) ?_; intro gg cap2 w2 hown1 hgrow hat hlt2; obtain ⟨q1, q2, q3⟩ := keep_grown (keep_alloc ⟨hcb, hfb, c5⟩ _) hgrow hne hnv))
      all_goals
        have hT2 := (TB.pushed hT1'.out _ b st hb hpv.out hN.out hX.out hgrow hown1 hat).congr hfl.out
        clear hgrow hown1 hat hlt2 q1 q2 q3 hz58 hcb hfb c5 hown hne hnv
        generalize w2.setCell ⟨w.heap.size, 23 + b, none⟩ (.slice (some ⟨gg, 0, none⟩) (N + 1) cap2) = w4 at hT2 ⊢
        go_wp2_with fail
        go_roundw
        case rel => exact ⟨k + 1, _, by omega, by go_num, hT2⟩
        case measure => simp [intOf]; omega
    · go_wp2_with fail
      go_ret
      have : k = ps.length := by omega
      subst this
      exact ⟨_, pv, rfl, by simpa using hT⟩

end Go.Proofs.Ybulkapdw
