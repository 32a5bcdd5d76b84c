import Derived.Test.YbulkapdiKOrd
import Derived.Deep.AppendLies
namespace Go.Proofs.Ybulkapdi.K
open Go.RowKit

def ptrs (N : List KN) : List Value := N.map fun n => Value.pointer (some ⟨n.g, 0, none⟩)

theorem own_kfr {w w' : World} (h : KFr w w') {base : Nat} {e : TypeId} {size : Nat} {v : Value} {n : Nat} {xs : List Value} (ho : w.ownsRow base e size v n xs) (h1 : e ≠ 106) (h2 : e ≠ 111) : w'.ownsRow base e size v n xs := by
  obtain ⟨a1, a2⟩ := ho
  refine ⟨a1, ?_⟩
  rcases a2 with a2 | ⟨g, cap, cur, hv, hg, hh, r⟩
  · exact Or.inl a2
  · exact Or.inr ⟨g, cap, cur, hv, hg, h.block g cur e (0, 0) hh h1 h2, r⟩

theorem own_below {w w' : World} (hb : Below w.heap.size w w') {base : Nat} {e : TypeId} {size : Nat} {v : Value} {n : Nat} {xs : List Value} (h : w.ownsRow base e size v n xs) : w'.ownsRow base e size v n xs := by
  obtain ⟨h1, h2⟩ := h
  refine ⟨h1, ?_⟩
  rcases h2 with h2 | ⟨g, cap, cur, hv, hg, hh, r⟩
  · exact Or.inl h2
  · exact Or.inr ⟨g, cap, cur, hv, hg, blk_below hb hh, r⟩

/-- Behind an append: the index is as it was (the row's block is of another type). -/
theorem IL.grown {w w' : World} {bi bu : Nat} {L : List KN} {row : Option Nat} {e : TypeId} (h : IL w bi bu L) (hg : w.grownBy w' row) (hr : ∀ g, row = some g → ∃ cs fr, w.heap[g]? = some (.cells cs e fr)) (he : e ≠ 106 ∧ e ≠ 111 ∧ e ≠ 103 ∧ e ≠ 5) : IL w' bi bu L := by
  have k : ∀ {g : Nat} {cs : Array Value} {e' : TypeId} {fr : Nat × Nat}, w.heap[g]? = some (.cells cs e' fr) → e' ≠ e → w'.heap[g]? = some (.cells cs e' fr) := fun {g cs e' fr} hc hne => by
    rw [hg.block g (lt_of_block hc) (fun e2 => by
      obtain ⟨cs', fr', h2⟩ := hr g e2.symm
      rw [hc] at h2
      simp only [Option.some.injEq, Obj.cells.injEq] at h2
      exact hne h2.2.1)]
    exact hc
  refine ⟨k h.head he.2.1.symm, k h.up he.2.2.1.symm, fun i n hn => k (h.node i n hn) he.1.symm, fun n hn => ?_, h.nd⟩
  have hK := h.key n hn
  obtain ⟨cs, fr, hty⟩ := hK.ty
  have h2 := k hty he.2.2.2.symm
  refine ⟨Nat.lt_of_lt_of_le hK.lt hg.size, hK.len, fun j hj => ?_, ⟨cs, fr, h2⟩⟩
  rw [← hK.cell j hj]
  exact World.cell?_of_block (w := w) (a := ⟨n.kb, j, none⟩) (h2.trans hty.symm)

theorem own_ty {w : World} {base : Nat} {e : TypeId} {size : Nat} {v : Value} {n : Nat} {xs : List Value} (h : w.ownsRow base e size v n xs) : ∀ g, v.ownBlock = some g → ∃ cs fr, w.heap[g]? = some (.cells cs e fr) := by
  intro g hg
  rcases h.2 with ⟨e1, _⟩ | ⟨g', cap, cur, hv, _, hh, _⟩
  · rw [e1] at hg; cases hg
  · rw [hv] at hg
    have : g' = g := by simpa [Value.ownBlock] using hg
    subst this
    exact ⟨cur, _, hh⟩

/-- A block of another type behind an append. -/
theorem blk_grown {w w' : World} {row : Option Nat} {e e' : TypeId} (hg : w.grownBy w' row) (hr : ∀ g, row = some g → ∃ cs fr, w.heap[g]? = some (.cells cs e fr)) {k : Nat} {cs : Array Value} {fr : Nat × Nat} (hc : w.heap[k]? = some (.cells cs e' fr)) (hne : e' ≠ e) : w'.heap[k]? = some (.cells cs e' fr) := by
  rw [hg.block k (lt_of_block hc) (fun e2 => by
    obtain ⟨cs', fr', h2⟩ := hr k e2.symm
    rw [hc] at h2
    simp only [Option.some.injEq, Obj.cells.injEq] at h2
    exact hne h2.2.1)]
  exact hc

/-- The law's state while it links its nodes: L in the index's order, N in the order of making. -/
structure ST (W wr : World) (bs bi bu : Nat) (L N : List KN) (v : Value) : Prop where
  il : IL wr bi bu L
  srt : Srt L
  mem : ∀ m, m ∈ N ↔ m ∈ L
  len : N.length = L.length
  own : wr.ownsRow W.heap.size 92 1 v N.length (ptrs N)
  st : ∃ cs, wr.heap[bs]? = some (.cells cs 89 (0, 0)) ∧ cs[0]? = some (.pointer (some ⟨bi, 0, none⟩))
  lo : Lo W.heap.size bi L
  below : Below W.heap.size W wr

theorem ST.later {W wr w' : World} {bs bi bu : Nat} {L N : List KN} {v : Value} (h : ST W wr bs bi bu L N v) (hb : Below wr.heap.size wr w') : ST W w' bs bi bu L N v := by
  obtain ⟨cs, e1, e2⟩ := h.st
  exact ⟨h.il.below hb, h.srt, h.mem, h.len, own_below hb h.own, ⟨cs, blk_below hb e1, e2⟩, h.lo, h.below.trans (hb.mono h.below.size)⟩

theorem ST.cell {W wr : World} {bs bi bu : Nat} {L N : List KN} {v : Value} (h : ST W wr bs bi bu L N v) : wr.cell? ⟨bs, 0, none⟩ = some (.pointer (some ⟨bi, 0, none⟩)) := by
  obtain ⟨cs, e1, e2⟩ := h.st
  rw [blk_cell e1]; exact e2

/-- Behind a link of n: the index holds it. -/
theorem ST.linked {W wr w' : World} {bs bi bu : Nat} {L N : List KN} {v : Value} {n : KN} (h : ST W wr bs bi bu L N v) (hi : IL w' bi bu (ins L (pos L n.l) n)) (hk : KFr wr w') (hb : Below W.heap.size wr w') (hnew : ∀ m ∈ L, m.l ≠ n.l) (hg : W.heap.size ≤ n.g) :
    IL w' bi bu (ins L (pos L n.l) n) ∧ Srt (ins L (pos L n.l) n) ∧ (∀ m, m ∈ N ++ [n] ↔ m ∈ ins L (pos L n.l) n) ∧ (N ++ [n]).length = (ins L (pos L n.l) n).length ∧ w'.ownsRow W.heap.size 92 1 v N.length (ptrs N) ∧
      (∃ cs, w'.heap[bs]? = some (.cells cs 89 (0, 0)) ∧ cs[0]? = some (.pointer (some ⟨bi, 0, none⟩))) ∧ Lo W.heap.size bi (ins L (pos L n.l) n) ∧ Below W.heap.size W w' := by
  obtain ⟨cs, e1, e2⟩ := h.st
  refine ⟨hi, h.srt.ins hnew, fun m => ?_, ?_, own_kfr hk h.own (by decide) (by decide), ⟨cs, hk.block bs cs 89 (0, 0) e1 (by decide) (by decide), e2⟩, ⟨h.lo.hd, fun m hm => ?_⟩, h.below.trans hb⟩
  · rw [mem_ins, List.mem_append, List.mem_singleton, h.mem m]
    exact ⟨fun x => x.elim Or.inr Or.inl, fun x => x.elim Or.inr Or.inl⟩
  · rw [len_ins _ _ _ (pos_le _ _), List.length_append, h.len]; rfl
  · rcases mem_ins.1 hm with rfl | hm
    · exact hg
    · exact h.lo.nd m hm

end Go.Proofs.Ybulkapdi.K
