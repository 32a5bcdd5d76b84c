import Derived.Test.YbulkapdiTopo
import Derived.Deep.AppendLies
namespace Go.Proofs.Ybulkapdi
open Go.RowKit

structure Apart (σ : Shape) (m : Nat) : Prop where
  s1 : σ.bs ≠ σ.bh
  s2 : σ.bs ≠ σ.bpr
  s3 : σ.bs ≠ σ.bpl
  s4 : σ.bs ≠ σ.bpt
  s5 : σ.bs ≠ σ.blo
  s6 : σ.bs ≠ σ.brd
  p1 : σ.bpl ≠ σ.bh
  p2 : σ.bpl ≠ σ.bpr
  p3 : σ.bpl ≠ σ.bpt
  p4 : σ.bpl ≠ σ.blo
  p5 : σ.bpl ≠ σ.brd
  v1 : ∀ t, t < m → (σ.pv t).ownBlock ≠ some σ.bs
  v2 : ∀ t, t < m → (σ.pv t).ownBlock ≠ some σ.bpl

structure OApart (σ : Shape) (m g : Nat) : Prop where
  a0 : g ≠ σ.bs
  a1 : g ≠ σ.bh
  a2 : g ≠ σ.bpr
  a3 : g ≠ σ.bpl
  a4 : g ≠ σ.bpt
  a5 : g ≠ σ.blo
  a6 : g ≠ σ.brd
  v : ∀ t, t < m → (σ.pv t).ownBlock ≠ some g

/-- The search's memory, to be written. -/
structure XS (w : World) (σ : Shape) (B0 m : Nat) (preds : Nat → List Nat) (placed : Nat → Bool) (ov : Value) (order : List Nat) : Prop where
  ss : SS w σ B0 m preds placed
  f4 : w.cell? ⟨σ.bs, 4, none⟩ = some ov
  z4 : w.frozen? ⟨σ.bs, 4, none⟩ = false
  zp : ∀ t, t < m → w.frozen? ⟨σ.bpl, t, none⟩ = false
  oo : w.ownsRow B0 3 1 ov order.length (ints order)
  ap : Apart σ m
  oap : ∀ g, ov.ownBlock = some g → OApart σ m g
  b1 : B0 ≤ σ.bs
  b2 : B0 ≤ σ.bpl

theorem ownsRow_set {w : World} {base : Nat} {e : TypeId} {size : Nat} {v : Value} {n : Nat} {xs : List Value} (h : w.ownsRow base e size v n xs) {a : Addr} (ha : v.ownBlock ≠ some a.block) (u : Value) : (w.setCell a u).ownsRow base e size v n xs := by
  obtain ⟨h1, h2⟩ := h
  refine ⟨h1, ?_⟩
  rcases h2 with h2 | ⟨g, cap, cur, hv, hg, hh, r⟩
  · exact Or.inl h2
  · refine Or.inr ⟨g, cap, cur, hv, hg, ?_, r⟩
    rw [Below.heap_setCell _ _ _ _ (by rintro rfl; exact ha (by rw [hv]; rfl))]
    exact hh

theorem cell_set {w : World} {a b : Addr} {u v : Value} (h : w.cell? b = some v) (hne : a.block ≠ b.block) : (w.setCell a u).cell? b = some v := by
  rw [World.cell?_setCell_other _ _ _ _ (fun e => hne (by rw [e]))]; exact h

theorem cell_grown {w w' : World} {row : Option Nat} (hg : w.grownBy w' row) {a : Addr} {v : Value} (h : w.cell? a = some v) (hne : ∀ g, row = some g → g ≠ a.block) : w'.cell? a = some v := by
  rw [hg.cell_far a (World.block_lt_of_cell? _ _ h) (fun e => hne _ e.symm rfl)]; exact h

theorem XS.below {w w' : World} {σ : Shape} {B0 m : Nat} {preds : Nat → List Nat} {placed : Nat → Bool} {ov : Value} {order : List Nat} (h : XS w σ B0 m preds placed ov order) (hb : Below w.heap.size w w') : XS w' σ B0 m preds placed ov order :=
  ⟨h.ss.below hb, cell_below hb h.f4, by rw [hb.frozen (World.block_lt_of_cell? _ _ h.f4)]; exact h.z4,
   fun t ht => by rw [hb.frozen (World.block_lt_of_cell? _ _ (h.ss.plc t ht))]; exact h.zp t ht, ownsRow_below hb h.oo, h.ap, h.oap, h.b1, h.b2⟩

theorem XS.place {w : World} {σ : Shape} {B0 m : Nat} {preds : Nat → List Nat} {placed : Nat → Bool} {ov : Value} {order : List Nat} (h : XS w σ B0 m preds placed ov order) (t : Nat) (ht : t < m) :
    XS (w.setCell ⟨σ.bpl, t, none⟩ (.bool true)) σ B0 m preds (setP placed t) ov order := by
  have ap := h.ap
  refine ⟨⟨cell_set h.ss.f0 ap.s3.symm, cell_set h.ss.f1 ap.s3.symm, cell_set h.ss.f2 ap.s3.symm, cell_set h.ss.f3 ap.s3.symm, cell_set h.ss.f5 ap.s3.symm, cell_set h.ss.h1 ap.p1,
    fun x hx => cell_set (h.ss.reads x hx) ap.p5, fun x hx => cell_set (h.ss.part x hx) ap.p3, fun x hx => cell_set (h.ss.loc x hx) ap.p4, fun x hx => ?_, fun x hx => cell_set (h.ss.prd x hx) ap.p2,
    fun x hx => ownsRow_set (h.ss.own x hx) (ap.v2 x hx) _⟩, cell_set h.f4 ap.s3.symm, by rw [World.frozen?_setCell]; exact h.z4, fun x hx => by rw [World.frozen?_setCell]; exact h.zp x hx,
    ownsRow_set h.oo (fun e => (h.oap _ e).a3 rfl) _, ap, h.oap, h.b1, h.b2⟩
  by_cases e : x = t
  · subst e; rw [World.cell?_setCell_same _ _ _ (h.ss.plc x hx)]; simp [setP]
  · rw [World.cell?_setCell_other _ _ _ _ (fun e' => e (congrArg Addr.off e').symm)]; simp [setP, e, h.ss.plc x hx]

/-- Behind 's.order = append(s.order, t)': the append and the store. -/
theorem XS.push {w w' : World} {σ : Shape} {B0 m : Nat} {preds : Nat → List Nat} {placed : Nat → Bool} {ov : Value} {order : List Nat} (h : XS w σ B0 m preds placed ov order) {v' : Value} {order' : List Nat} (h0 : 0 < m)
    (hg : w.grownBy w' ov.ownBlock) (ho : w'.ownsRow B0 3 1 v' order'.length (ints order')) (hv : ∀ g, v'.ownBlock = some g → ov.ownBlock = some g ∨ w.heap.size ≤ g) :
    XS (w'.setCell ⟨σ.bs, 4, none⟩ v') σ B0 m preds placed v' order' := by
  have ap := h.ap
  have k : ∀ {a : Addr} {u : Value}, w.cell? a = some u → (∀ g, OApart σ m g → g ≠ a.block) → σ.bs ≠ a.block → (w'.setCell ⟨σ.bs, 4, none⟩ v').cell? a = some u :=
    fun hc hn hs => cell_set (cell_grown hg hc (fun g hg' => hn g (h.oap g hg'))) hs
  have kf : ∀ i u, w.cell? ⟨σ.bs, i, none⟩ = some u → i ≠ 4 → (w'.setCell ⟨σ.bs, 4, none⟩ v').cell? ⟨σ.bs, i, none⟩ = some u := fun i u hc hi => by
    rw [World.cell?_setCell_other _ _ _ _ (fun e => hi (congrArg Addr.off e).symm)]
    exact cell_grown hg hc (fun g hg' => (h.oap g hg').a0)
  have oapn : ∀ g, v'.ownBlock = some g → OApart σ m g := fun g hg' => by
    rcases hv g hg' with e | e
    · exact h.oap g e
    · have l : ∀ {a : Addr} {u : Value}, w.cell? a = some u → g ≠ a.block := fun hc => by have := World.block_lt_of_cell? _ _ hc; omega
      refine ⟨l h.ss.f0, l h.ss.h1, l (h.ss.prd 0 h0), l (h.ss.plc 0 h0), l (h.ss.part 0 h0), l (h.ss.loc 0 h0), l (h.ss.reads 0 h0), fun t ht e' => ?_⟩
      have := ((h.ss.own t ht).lt g e').2
      omega
  have fr : ∀ {a : Addr} {u : Value}, w.cell? a = some u → (∀ g, OApart σ m g → g ≠ a.block) → (w'.setCell ⟨σ.bs, 4, none⟩ v').frozen? a = w.frozen? a := fun {a u} hc hn => by
    rw [World.frozen?_setCell]
    exact hg.frozen_far a (World.block_lt_of_cell? _ _ hc) (fun e => hn _ (h.oap _ e.symm) rfl)
  refine ⟨⟨kf 0 _ h.ss.f0 (by decide), kf 1 _ h.ss.f1 (by decide), kf 2 _ h.ss.f2 (by decide), kf 3 _ h.ss.f3 (by decide), kf 5 _ h.ss.f5 (by decide), k h.ss.h1 (fun g o => o.a1) ap.s1,
    fun x hx => k (h.ss.reads x hx) (fun g o => o.a6) ap.s6, fun x hx => k (h.ss.part x hx) (fun g o => o.a4) ap.s4, fun x hx => k (h.ss.loc x hx) (fun g o => o.a5) ap.s5, fun x hx => k (h.ss.plc x hx) (fun g o => o.a3) ap.s3,
    fun x hx => k (h.ss.prd x hx) (fun g o => o.a2) ap.s2, fun x hx => ?_⟩, ?_, ?_, fun x hx => ?_, ?_, ap, oapn, h.b1, h.b2⟩
  · refine ownsRow_set ((h.ss.own x hx).kept hg ?_) (ap.v1 x hx) _
    cases e : ov.ownBlock with
    | none =>
      cases e2 : (σ.pv x).ownBlock with
      | none => exact Or.inl rfl
      | some g => exact Or.inr (by simp)
    | some g => exact Or.inr ((h.oap g e).v x hx)
  · exact World.cell?_setCell_same _ _ _ (cell_grown hg h.f4 (fun g hg' => (h.oap g hg').a0))
  · rw [fr h.f4 (fun g o => o.a0)]; exact h.z4
  · rw [fr (h.ss.plc x hx) (fun g o => o.a3)]; exact h.zp x hx
  · exact ownsRow_set ho (fun e => (oapn _ e).a0 rfl) _

set_option maxRecDepth 100000 in
set_option maxHeartbeats 1000000 in
theorem extend_done (σ : Shape) (B0 m : Nat) (preds : Nat → List Nat) (placed : Nat → Bool) (ov : Value) (order : List Nat) (w : World) (h : XS w σ B0 m preds placed ov order) (hl : order.length = m) :
    Calls Yba.prog 6 #[.pointer (some ⟨σ.bs, 0, none⟩)] w fun e w' => e = .returned (.bool true) ∧ ∃ q, w' = w.drewN q := by
  have g3 := h.ss.f3
  have g4 := h.f4
  obtain ⟨ao, cap, hov⟩ : ∃ ao cap, ov = .slice ao order.length cap := by
    rcases h.oo.2 with ⟨e, e2⟩ | ⟨g, cap, cur, e, _⟩
    · exact ⟨none, 0, by rw [e, e2]⟩
    · exact ⟨_, cap, e⟩
  rw [hov, hl] at g4
  clear hov hl
  go_enter Yba.func6, Yba.ntmps6
  go_wp2_with fail
  go_quiet (fail)
  go_wp2_with fail
  go_ret
  exact ⟨rfl, _, rfl⟩

set_option maxRecDepth 100000 in
set_option maxHeartbeats 1000000 in
theorem extend_cyclic (σ : Shape) (B0 m : Nat) (preds : Nat → List Nat) (placed : Nat → Bool) (ov : Value) (order : List Nat) (w : World) (h : XS w σ B0 m preds placed ov order) (h1 : 1 ≤ m) (hm : m ≤ 255) (hl : order.length < m)
    (hlen : ∀ t, t < m → (preds t).length ≤ 100000) (hpr : ∀ t p, t < m → p ∈ preds t → p < m ∧ p ≠ t) (hn : addAll m (edgesTo preds placed m) (fun _ _ => 0) = none) :
    Calls Yba.prog 6 #[.pointer (some ⟨σ.bs, 0, none⟩)] w fun e w' => e = .returned (.bool false) ∧ Below w.heap.size w w' := by
  have g3 := h.ss.f3
  have g4 := h.f4
  obtain ⟨ao, cap, hov⟩ : ∃ ao cap, ov = .slice ao order.length cap := by
    rcases h.oo.2 with ⟨e, e2⟩ | ⟨g, cap, cur, e, _⟩
    · exact ⟨none, 0, by rw [e, e2]⟩
    · exact ⟨_, cap, e⟩
  rw [hov] at g4
  have HN := hide hn
  clear hov hn
  have hne : ((order.length : Int) == (m : Int)) = false := by simp; omega
  go_enter Yba.func6, Yba.ntmps6
  go_wp2_with fail
  go_quiet (fail)
  go_wp2_with fail
  refine (front_none σ B0 m _ preds placed _ (h.ss.below (belowDrewN (Below.refl _ _) _)) h1 hm rfl hlen hpr (unhide HN)).mono ?_
  rintro e w1 ⟨rfl, hB1⟩
  go_wp2_with fail
  refine wp_loop_rounds 1 ?_
  rw [rounds_succ]
  go_wp2_with fail
  go_ret
  exact ⟨rfl, hB1.os, hB1.tape, hB1.output, hB1.size, hB1.block⟩

theorem ownsRow_base {w : World} {base base' : Nat} {e : TypeId} {size : Nat} {v : Value} {n : Nat} {xs : List Value} (h : w.ownsRow base e size v n xs) (hb : base' ≤ base) : w.ownsRow base' e size v n xs := by
  obtain ⟨h1, h2⟩ := h
  refine ⟨h1, ?_⟩
  rcases h2 with h2 | ⟨g, cap, cur, hv, hg, r⟩
  · exact Or.inl h2
  · exact Or.inr ⟨g, cap, cur, hv, Nat.le_trans hb hg, r⟩

set_option maxRecDepth 100000 in
set_option maxHeartbeats 2000000 in
theorem extend_step (σ : Shape) (B0 m : Nat) (preds : Nat → List Nat) (placed : Nat → Bool) (ov : Value) (order : List Nat) (w : World) (h : XS w σ B0 m preds placed ov order) (h1 : 1 ≤ m) (hm : m ≤ 255) (hl : order.length < m)
    (hB0 : B0 ≤ w.heap.size) (hlen : ∀ t, t < m → (preds t).length ≤ 100000) (hpr : ∀ t p, t < m → p ∈ preds t → p < m ∧ p ≠ t) (R : Nat → Nat → Nat) (hn : addAll m (edgesTo preds placed m) (fun _ _ => 0) = some R)
    (t : Nat) (ht : nextP m preds placed = some t) (Q : Ending → World → Prop)
    (ih : ∀ (w2 : World) (ov2 : Value), XS w2 σ B0 m preds (setP placed t) ov2 (order ++ [t]) → Below B0 w w2 → Calls Yba.prog 6 #[.pointer (some ⟨σ.bs, 0, none⟩)] w2 fun e w' => e = .returned (.bool true) ∧ Q e w') :
    Calls Yba.prog 6 #[.pointer (some ⟨σ.bs, 0, none⟩)] w fun e w' => e = .returned (.bool true) ∧ Q e w' := by
  have g3 := h.ss.f3
  have g4 := h.f4
  obtain ⟨ao, cap, hov⟩ : ∃ ao cap, ov = .slice ao order.length cap := by
    rcases h.oo.2 with ⟨e, e2⟩ | ⟨g, cap, cur, e, _⟩
    · exact ⟨none, 0, by rw [e, e2]⟩
    · exact ⟨_, cap, e⟩
  subst hov
  have htm := (nextP_spec ht).1
  obtain ⟨rest, hrest⟩ := ready_head hpr hn ht
  have HR := hide hrest
  have HN := hide hn
  have IH := hide ih
  clear hn ih ht hrest
  have hne : ((order.length : Int) == (m : Int)) = false := by simp; omega
  go_enter Yba.func6, Yba.ntmps6
  go_wp2_with fail
  go_quiet (fail)
  go_wp2_with fail
  refine (front_some σ B0 m _ preds placed _ (h.ss.below (belowDrewN (Below.refl _ _) _)) h1 hm rfl hlen hpr R (unhide HN)).mono ?_
  rintro e w1 ⟨⟨v, rfl, hown⟩, hB1⟩
  have hB1' : Below w.heap.size w w1 := ⟨hB1.os, hB1.tape, hB1.output, hB1.size, hB1.block⟩
  rw [unhide HR] at hown
  obtain ⟨gv, cv, hv⟩ : ∃ gv cv, v = .slice (some ⟨gv, 0, none⟩) (rest.length + 1) cv := by
    rcases hown.2 with ⟨_, e2⟩ | ⟨g, cap, cur, e, _⟩
    · simp at e2
    · exact ⟨g, cap, by simpa using e⟩
  subst hv
  have hc0 : w1.cell? ⟨gv, 0, none⟩ = some (.int .i64 t) := by
    have := World.ownsRow.cellAt (n := rest.length + 1) hown 0 (by omega)
    rw [this]; simp [ints]
  have hX1 := h.below hB1'
  clear g3 g4 hown hB1
  have g2 := hX1.ss.f2
  have gp := hX1.ss.plc t htm
  have gz := hX1.zp t htm
  have g4 := hX1.f4
  have hX2 := hX1.place t htm
  have q4 := hX2.f4
  have qz := hX2.z4
  have hgz : w1.heap.size = (w1.setCell ⟨σ.bpl, t, none⟩ (.bool true)).heap.size := by simp
  obtain ⟨i0, hi, hz0, hz1, hz2⟩ := info_parts Yba.info3
  have hoal := hX2.oo.alloc (.cells #[.int .i64 t] 3)
  have HO := hide hoal
  have HG := hide hgz
  clear hoal hgz
  go_wp2_with fail
  refine wp_loop_rounds 1 ?_
  rw [rounds_succ]
  go_wp2_with (first | (at_builtin; refine wpList_append_lies _ rfl _ _ 27 rfl B0 3 i0 (.int .i64 0) 1 8 Yba.underlying27 hi hz0 hz1 hz2 rfl (by decide) _ _ _ rfl (unhide HO) ⟨w1.heap.size, 0, none⟩ 1 1 [.int .i64 t] rfl rfl ?c1 ?c2 (by decide) ?c3 ?c4 ?c5 (w1.heap.size + 1) ?c6 ?_))
  case c1 => rw [unhide HG]; exact cell_one_new _ _ _
  case c2 => intro u hu; simp at hu; subst hu; rfl
  case c3 => unfold maxLen; omega
  case c4 => omega
  case c5 => have := hB1'.size; simp; omega
  case c6 => simp
  intro g cap2 w3 hown3 hgrow hat hlt3
  have hX3 := hX2.below ((Below.refl _ _).alloc (Nat.le_refl _) (.cells #[.int .i64 t] 3))
  have hX4 := hX3.push (v' := .slice (some ⟨g, 0, none⟩) (order.length + 1) cap2) (order' := order ++ [t]) (by omega) hgrow (by simpa [ints] using hown3) (fun g' hg' => by
    have e : g = g' := by simpa [Value.ownBlock] using hg'
    subst e
    rcases hat with e | e
    · exact Or.inl e
    · right; simp; omega)
  have hB4 : Below B0 w (w3.setCell ⟨σ.bs, 4, none⟩ (.slice (some ⟨g, 0, none⟩) (order.length + 1) cap2)) := by
    have a1 : Below B0 w w1 := hB1'.mono hB0
    have a2 : Below B0 w (w1.setCell ⟨σ.bpl, t, none⟩ (.bool true)) := a1.setCell h.b2 _
    have a3 := a2.alloc (by have := hB1'.size; simp; omega) (.cells #[.int .i64 t] 3)
    have a4 := a3.grown hgrow (by have := hB1'.size; simp; omega) (fun k hk => (hX3.oo.lt k hk).1)
    exact a4.setCell h.b1 _
  have r4 : w3.cell? ⟨σ.bs, 4, none⟩ = some (.slice ao order.length cap) := cell_grown hgrow hX3.f4 (fun g' hg' => (hX3.oap g' hg').a0)
  have rz : w3.frozen? ⟨σ.bs, 4, none⟩ = false := by
    rw [hgrow.frozen_far _ (World.block_lt_of_cell? _ _ hX3.f4) (fun e => (hX3.oap _ e.symm).a0 rfl)]; exact hX3.z4
  clear hgrow hown3 hat hX3 hX2 hX1 q4 qz g2 gp gz g4 hc0
  go_wp2_with fail
  refine (unhide IH _ _ hX4 hB4).mono ?_
  rintro e w5 ⟨rfl, hQ⟩
  go_wp2_with fail
  go_ret
  exact ⟨rfl, hQ⟩

theorem extend_any (σ : Shape) (B0 m : Nat) (preds : Nat → List Nat) (hm : m ≤ 255) (hlen : ∀ t, t < m → (preds t).length ≤ 100000)
    (rank : Nat → Nat) (hr : ∀ t, t < m → ∀ p ∈ preds t, p < m ∧ rank p < rank t) :
    ∀ (k : Nat) (placed : Nat → Bool) (ov : Value) (order : List Nat) (w : World) (pl' : Nat → Bool) (o' : List Nat), XS w σ B0 m preds placed ov order → B0 ≤ w.heap.size → order.length + k = m → greedy m preds k placed order = some (pl', o') →
    Calls Yba.prog 6 #[.pointer (some ⟨σ.bs, 0, none⟩)] w fun e w' => e = .returned (.bool true) ∧ (∃ ov', XS w' σ B0 m preds pl' ov' o') ∧ Below B0 w w' := by
  have hpr : ∀ t p, t < m → p ∈ preds t → p < m ∧ p ≠ t := fun t p ht hp => by
    have := hr t ht p hp
    exact ⟨this.1, fun e => by rw [e] at this; omega⟩
  intro k
  induction k with
  | zero =>
    intro placed ov order w pl' o' h hB0 hl hg
    simp only [greedy, Option.some.injEq, Prod.mk.injEq] at hg
    obtain ⟨rfl, rfl⟩ := hg
    refine (extend_done σ B0 m preds placed ov order w h (by omega)).mono ?_
    rintro e w' ⟨rfl, q, rfl⟩
    exact ⟨rfl, ⟨ov, h.below (belowDrewN (Below.refl _ _) _)⟩, belowDrewN (Below.refl _ _) _⟩
  | succ k ih =>
    intro placed ov order w pl' o' h hB0 hl hg
    rw [greedy] at hg
    cases hn : nextP m preds placed with
    | none => rw [hn] at hg; cases hg
    | some t =>
      rw [hn] at hg
      obtain ⟨R, hR⟩ := addAll_ranked rank hr placed
      exact extend_step σ B0 m preds placed ov order w h (by omega) hm (by omega) hB0 hlen hpr R hR t hn (fun _ w' => (∃ ov', XS w' σ B0 m preds pl' ov' o') ∧ Below B0 w w') (fun w2 ov2 h2 hb2 => by
        refine (ih (setP placed t) ov2 (order ++ [t]) w2 pl' o' h2 (Nat.le_trans hB0 hb2.size) (by simp; omega) hg).mono ?_
        rintro e w' ⟨rfl, hx, hb⟩
        exact ⟨rfl, hx, hb2.trans hb⟩)

end Go.Proofs.Ybulkapdi
