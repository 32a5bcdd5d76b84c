import Derived.Test.YbulkapdiKLink
namespace Go.Proofs.Ybulkapdi.K
open Go.RowKit

/-- All of the index lies from block B on. -/
structure Lo (B bi : Nat) (L : List KN) : Prop where
  hd : B ≤ bi
  nd : ∀ m ∈ L, B ≤ m.g

theorem Lo.blockAt {B bi : Nat} {L : List KN} (h : Lo B bi L) (i : Nat) (hi : i ≤ L.length) : B ≤ blockAt bi L i := by
  cases i with
  | zero => exact h.hd
  | succ i =>
    obtain ⟨m, hm⟩ : ∃ m, L[i]? = some m := ⟨_, List.getElem?_eq_getElem hi⟩
    simp only [K.blockAt, hm, Option.map_some, Option.getD_some]
    exact h.nd m (List.mem_of_getElem? hm)

theorem IL.at {w : World} {bi bu : Nat} {L : List KN} (h : IL w bi bu L) (i : Nat) (hi : i ≤ L.length) : ∃ cs e, w.heap[blockAt bi L i]? = some (.cells cs e (0, 0)) ∧ (e = 106 ∨ e = 111) ∧ cs[0]? = some (.pointer none) := by
  cases i with
  | zero => exact ⟨_, _, h.head, Or.inr rfl, rfl⟩
  | succ i =>
    obtain ⟨m, hm⟩ : ∃ m, L[i]? = some m := ⟨_, List.getElem?_eq_getElem hi⟩
    have e : blockAt bi L (i + 1) = m.g := by simp [blockAt, hm]
    rw [e]
    exact ⟨_, _, h.node i m hm, Or.inl rfl, rfl⟩

theorem pos_le (L : List KN) (l : List UInt8) : pos L l ≤ L.length := by
  unfold pos
  exact List.IsPrefix.length_le (List.takeWhile_prefix _)

set_option maxHeartbeats 1000000 in
theorem link_any (B bi bu : Nat) (L : List KN) (n : KN) (w : World) (h : IL w bi bu L) (hn : w.heap[n.g]? = some (.cells (nodeCells n true false none) 106 (0, 0))) (hk : KB w n.kb n.l) (hlo : Lo B bi L) (hg : B ≤ n.g) (hBw : B ≤ w.heap.size) :
    Calls Yba.prog 10 #[.pointer (some ⟨bi, 0, none⟩), .pointer (some ⟨n.g, 0, none⟩)] w fun e w' => e = .returned (.tuple #[]) ∧ IL w' bi bu (ins L (pos L n.l) n) ∧ KFr w w' ∧ Below B w w' := by
  go_enter Yba.func10, Yba.ntmps10
  go_wp2_with fail
  have hB1 : Below w.heap.size w (w.alloc (.cells #[.pointer none, .pointer none, .pointer none, .pointer none, .pointer none, .pointer none, .pointer none, .pointer none, .pointer none, .pointer none, .pointer none, .pointer none, .pointer none, .pointer none, .pointer none, .pointer none, .pointer none, .pointer none, .pointer none, .pointer none] 120)) := (Below.refl _ _).alloc (Nat.le_refl _) _
  have harr : ∃ cs, (w.alloc (.cells #[.pointer none, .pointer none, .pointer none, .pointer none, .pointer none, .pointer none, .pointer none, .pointer none, .pointer none, .pointer none, .pointer none, .pointer none, .pointer none, .pointer none, .pointer none, .pointer none, .pointer none, .pointer none, .pointer none, .pointer none] 120)).heap[w.heap.size]? = some (.cells cs 120 (0, 0)) ∧ cs.size = 20 := ⟨_, heap_alloc_new _ _, rfl⟩
  generalize w.alloc (.cells #[.pointer none, .pointer none, .pointer none, .pointer none, .pointer none, .pointer none, .pointer none, .pointer none, .pointer none, .pointer none, .pointer none, .pointer none, .pointer none, .pointer none, .pointer none, .pointer none, .pointer none, .pointer none, .pointer none, .pointer none] 120) = w1 at hB1 harr ⊢
  have hn1 := blk_below hB1 hn
  refine (skey_any n.g _ n.kb n.l.length n.kc (pre n.l) _ rfl (by rw [blk_cell hn1]; rfl) (by rw [blk_cell hn1]; rfl)).mono ?_
  rintro e w2 ⟨rfl, hB2⟩
  have hB2' : Below w.heap.size w w2 := hB1.trans (hB2.mono hB1.size)
  have harr2 : ∃ cs, w2.heap[w.heap.size]? = some (.cells cs 120 (0, 0)) ∧ cs.size = 20 := by
    obtain ⟨cs, e1, e2⟩ := harr
    exact ⟨cs, blk_below hB2 e1, e2⟩
  clear harr hn1
  go_wp2_with fail
  refine (seek_preds bi bu n.kb n.kc w.heap.size n.l L w w2 h hk hB2' (Nat.le_refl _) harr2).mono ?_
  rintro e w3 ⟨rfl, hB3, hp3⟩
  have hI3 := h.below hB3
  have hn3 := blk_below hB3 hn
  have hpl := pos_le L n.l
  have h5 := hI3.next (pos L n.l) hpl
  obtain ⟨cs, ty, hat, hty, _⟩ := hI3.at (pos L n.l) hpl
  have n1 : blockAt bi L (pos L n.l) ≠ n.g := by
    obtain ⟨cs', e', hat', _, hc0'⟩ := h.at (pos L n.l) hpl
    intro e2
    rw [e2, hn] at hat'
    cases hp : pos L n.l with
    | zero =>
      rw [hp] at e2
      have := h.head
      rw [show bi = n.g from e2, hn] at this
      simp at this
    | succ i =>
      rw [hp] at e2 hpl
      obtain ⟨m, hm⟩ : ∃ m, L[i]? = some m := ⟨_, List.getElem?_eq_getElem hpl⟩
      have e2 : m.g = n.g := by simpa [blockAt, hm] using e2
      have := h.node i m hm
      rw [e2, hn] at this
      simp [nodeCells] at this
  have lg := lt_of_block hn
  go_wp2_with fail
  refine (linkAfter_any n.g (blockAt bi L (pos L n.l)) w.heap.size (nxt (L.drop (pos L n.l))) n _ hn3 hp3 h5 (blk_free hat 5) (hI3.np _) n1 (by omega)).mono ?_
  rintro e w4 ⟨rfl, q, rfl⟩
  go_wp2_with fail
  go_end0
  have hKn := hk.below hB3
  -- the three stores
  have s1 := blk_set hn3 5 (.pointer (nxt (L.drop (pos L n.l))))
  have s1' : (w3.setCell ⟨n.g, 5, none⟩ (.pointer (nxt (L.drop (pos L n.l))))).heap[blockAt bi L (pos L n.l)]? = some (.cells cs ty (0, 0)) := by rw [Below.heap_setCell _ _ _ _ n1]; exact hat
  have s2 := blk_set s1' 5 (.pointer (some ⟨n.g, 0, none⟩))
  have s2' := (Below.heap_setCell (w3.setCell ⟨n.g, 5, none⟩ (.pointer (nxt (L.drop (pos L n.l))))) ⟨blockAt bi L (pos L n.l), 5, none⟩ (.pointer (some ⟨n.g, 0, none⟩)) n.g (Ne.symm n1)).trans s1
  have s3 := blk_set s2' 1 (.bool false)
  refine ⟨rfl, ?_, ?_, ?_⟩
  · refine il_insert hI3 hpl hn3 hKn (fun k k1 k2 => ?_) (fun cs' e' he' => ?_) ?_ (fun kb l hkb => ?_)
    · show (((w3.setCell ⟨n.g, 5, none⟩ _).setCell ⟨blockAt bi L (pos L n.l), 5, none⟩ _).setCell ⟨n.g, 1, none⟩ _).heap[k]? = _
      rw [Below.heap_setCell _ _ _ _ k1, Below.heap_setCell _ _ _ _ k2, Below.heap_setCell _ _ _ _ k1]
    · rw [hat] at he'
      simp only [Option.some.injEq, Obj.cells.injEq] at he'
      obtain ⟨rfl, rfl, _⟩ := he'
      show (((w3.setCell ⟨n.g, 5, none⟩ _).setCell ⟨blockAt bi L (pos L n.l), 5, none⟩ _).setCell ⟨n.g, 1, none⟩ _).heap[blockAt bi L (pos L n.l)]? = _
      rw [Below.heap_setCell _ _ _ _ n1]; exact s2
    · exact s3
    · have a1 := hkb.set (a := ⟨n.g, 5, none⟩) (x := .pointer (nxt (L.drop (pos L n.l)))) hn3 (by decide)
      have a2 := a1.set (a := ⟨blockAt bi L (pos L n.l), 5, none⟩) (x := .pointer (some ⟨n.g, 0, none⟩)) s1' (by rcases hty with e | e <;> rw [e] <;> decide)
      have a3 := a2.set (a := ⟨n.g, 1, none⟩) (x := .bool false) s2' (by decide)
      exact ⟨a3.lt, a3.len, a3.cell, a3.ty⟩
  · have a0 := KFr.of_below hB3
    have a1 := a0.setCell (a := ⟨n.g, 5, none⟩) hn3 (Or.inl rfl) (.pointer (nxt (L.drop (pos L n.l))))
    have a2 := a1.setCell (a := ⟨blockAt bi L (pos L n.l), 5, none⟩) s1' hty (.pointer (some ⟨n.g, 0, none⟩))
    have a3 := a2.setCell (a := ⟨n.g, 1, none⟩) s2' (Or.inl rfl) (.bool false)
    exact ⟨a3.size, a3.block⟩
  · have a1 := (((hB3.mono hBw).setCell (p := ⟨n.g, 5, none⟩) hg (.pointer (nxt (L.drop (pos L n.l))))).setCell (p := ⟨blockAt bi L (pos L n.l), 5, none⟩) (hlo.blockAt _ hpl) (.pointer (some ⟨n.g, 0, none⟩))).setCell (p := ⟨n.g, 1, none⟩) hg (.bool false)
    exact ⟨a1.os, a1.tape, a1.output, a1.size, a1.block⟩
end Go.Proofs.Ybulkapdi.K
