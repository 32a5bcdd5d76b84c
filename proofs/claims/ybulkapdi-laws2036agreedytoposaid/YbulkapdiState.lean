import Derived.Test.YbulkapdiNewP
namespace Go.Proofs.Ybulkapdi
open Go.RowKit

/-- Where the search's memory lies. -/
structure Shape where
  bs : Nat
  bh : Nat
  bpr : Nat
  bpl : Nat
  bpt : Nat
  blo : Nat
  brd : Nat
  pv : Nat → Value
  ht : Value

def ints (l : List Nat) : List Value := l.map fun (x : Nat) => Value.int .i64 (x : Int)

/-- What mustPrecede and frontier read. -/
structure SS (w : World) (σ : Shape) (B0 m : Nat) (preds : Nat → List Nat) (placed : Nat → Bool) : Prop where
  f0 : w.cell? ⟨σ.bs, 0, none⟩ = some (.pointer (some ⟨σ.bh, 0, none⟩))
  f1 : w.cell? ⟨σ.bs, 1, none⟩ = some (.slice (some ⟨σ.bpr, 0, none⟩) m m)
  f2 : w.cell? ⟨σ.bs, 2, none⟩ = some (.slice (some ⟨σ.bpl, 0, none⟩) m m)
  f3 : w.cell? ⟨σ.bs, 3, none⟩ = some (.slice (some ⟨σ.bpt, 0, none⟩) m m)
  f5 : w.cell? ⟨σ.bs, 5, none⟩ = some (.slice (some ⟨σ.blo, 0, none⟩) m m)
  h1 : w.cell? ⟨σ.bh, 1, none⟩ = some (.slice (some ⟨σ.brd, 0, none⟩) m m)
  reads : ∀ t, t < m → w.cell? ⟨σ.brd, t, none⟩ = some (.slice none 0 0)
  part : ∀ t, t < m → w.cell? ⟨σ.bpt, t, none⟩ = some (.int .i64 t)
  loc : ∀ t, t < m → w.cell? ⟨σ.blo, t, none⟩ = some (.int .i64 t)
  plc : ∀ t, t < m → w.cell? ⟨σ.bpl, t, none⟩ = some (.bool (placed t))
  prd : ∀ t, t < m → w.cell? ⟨σ.bpr, t, none⟩ = some (σ.pv t)
  own : ∀ t, t < m → w.ownsRow B0 3 1 (σ.pv t) (preds t).length (ints (preds t))

theorem cell_below {w w' : World} (hb : Below w.heap.size w w') {a : Addr} {v : Value} (h : w.cell? a = some v) : w'.cell? a = some v :=
  (hb.cell (World.block_lt_of_cell? _ _ h)).trans h

theorem ownsRow_below {w w' : World} (hb : Below w.heap.size w w') {base : Nat} {e : TypeId} {size : Nat} {v : Value} {n : Nat} {xs : List Value} (h : w.ownsRow base e size v n xs) : w'.ownsRow base e size v n xs := by
  obtain ⟨h1, h2⟩ := h
  refine ⟨h1, ?_⟩
  rcases h2 with h2 | ⟨g, cap, cur, hv, hg, hh, r⟩
  · exact Or.inl h2
  · refine Or.inr ⟨g, cap, cur, hv, hg, ?_, r⟩
    rw [hb.block g (by
      rcases Nat.lt_or_ge g w.heap.size with h | h
      · exact h
      · rw [Array.getElem?_eq_none h] at hh; cases hh)]
    exact hh

theorem SS.below {w w' : World} {σ : Shape} {B0 m : Nat} {preds : Nat → List Nat} {placed : Nat → Bool} (h : SS w σ B0 m preds placed) (hb : Below w.heap.size w w') : SS w' σ B0 m preds placed :=
  ⟨cell_below hb h.f0, cell_below hb h.f1, cell_below hb h.f2, cell_below hb h.f3, cell_below hb h.f5, cell_below hb h.h1,
   fun t ht => cell_below hb (h.reads t ht), fun t ht => cell_below hb (h.part t ht), fun t ht => cell_below hb (h.loc t ht), fun t ht => cell_below hb (h.plc t ht),
   fun t ht => cell_below hb (h.prd t ht), fun t ht => ownsRow_below hb (h.own t ht)⟩

/-- A predecessor list's slice, looked into. -/
theorem SS.look {w : World} {σ : Shape} {B0 m : Nat} {preds : Nat → List Nat} {placed : Nat → Bool} (h : SS w σ B0 m preds placed) (t : Nat) (ht : t < m) :
    ∃ ao cap, σ.pv t = .slice ao (preds t).length cap ∧ ((preds t).length = 0 ∨ ∃ g, ao = some ⟨g, 0, none⟩ ∧ ∀ (j x : Nat), (preds t)[j]? = some x → w.cell? ⟨g, j, none⟩ = some (.int .i64 (x : Int))) := by
  have ho := h.own t ht
  obtain ⟨h1, h2⟩ := ho
  rcases h2 with ⟨e, hn⟩ | ⟨g, cap, cur, hv, hg, hh, r⟩
  · exact ⟨none, 0, by rw [e, hn], Or.inl hn⟩
  · refine ⟨some ⟨g, 0, none⟩, cap, hv, Or.inr ⟨g, rfl, fun j x hj => ?_⟩⟩
    have hc := World.ownsRow.cellAt (w := w) (base := B0) (e := 3) (size := 1) (g := g) (n := (preds t).length) (cap := cap) (xs := ints (preds t)) ⟨h1, Or.inr ⟨g, cap, cur, rfl, hg, hh, r⟩⟩ j (by
      obtain ⟨hlt, _⟩ := List.getElem?_eq_some_iff.1 hj; omega)
    rw [hc]
    simp [ints, hj]

/-! ### The plain functions -/
def edgeOf (placed : Nat → Bool) (t : Nat) (l : List Nat) : List (Nat × Nat) := if placed t = true then [] else (l.filter fun p => !placed p).map fun p => (p, t)
def edgesTo (preds : Nat → List Nat) (placed : Nat → Bool) (t : Nat) : List (Nat × Nat) := (List.range t).flatMap fun s => edgeOf placed s (preds s)
def addAll (n : Nat) : List (Nat × Nat) → (Nat → Nat → Nat) → Option (Nat → Nat → Nat)
  | [], R => some R
  | e :: es, R => if rel R e.2 e.1 = true then none else addAll n es (addR R e.1 e.2 n)

theorem addAll_append (n : Nat) (es fs : List (Nat × Nat)) (R : Nat → Nat → Nat) : addAll n (es ++ fs) R = (addAll n es R).bind (addAll n fs) := by
  induction es generalizing R with
  | nil => rfl
  | cons e es ih =>
    simp only [List.cons_append, addAll]
    split
    · rfl
    · exact ih _

theorem edgesTo_succ (preds : Nat → List Nat) (placed : Nat → Bool) (t : Nat) : edgesTo preds placed (t + 1) = edgesTo preds placed t ++ edgeOf placed t (preds t) := by
  simp [edgesTo, List.range_succ]

end Go.Proofs.Ybulkapdi
