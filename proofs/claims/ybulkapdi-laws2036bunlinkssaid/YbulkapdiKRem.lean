import Derived.Test.YbulkapdiKIns
namespace Go.Proofs.Ybulkapdi.K
open Go.RowKit

theorem il_remove {w w' : World} {bi bu i : Nat} {L : List KN} {n : KN} (h : IL w bi bu L) (hn : L[i]? = some n)
    (ho : ∀ k, k ≠ n.g → k ≠ blockAt bi L i → w'.heap[k]? = w.heap[k]?)
    (hp : ∀ cs e, w.heap[blockAt bi L i]? = some (.cells cs e (0, 0)) → w'.heap[blockAt bi L i]? = some (.cells (cs.setIfInBounds 5 (.pointer (nxt (L.drop (i + 1))))) e (0, 0)))
    (hk : ∀ kb l, KB w kb l → KB w' kb l) : IL w' bi bu (L.eraseIdx i) := by
  obtain ⟨hil, _⟩ := List.getElem?_eq_some_iff.1 hn
  have nbib : ∀ (j : Nat) (m : KN), L[j]? = some m → m.g ≠ bi := fun j m hj e => by
    have h1 := h.node j m hj
    rw [e, h.head] at h1
    simp at h1
  have nbub : ∀ (j : Nat) (m : KN), L[j]? = some m → m.g ≠ bu := fun j m hj e => by
    have h1 := h.node j m hj
    rw [e, h.up] at h1
    simp at h1
  have pu : blockAt bi L i ≠ bu := by
    cases i with
    | zero =>
      intro e
      have e : bi = bu := e
      have h1 := h.up
      rw [← e, h.head] at h1
      simp at h1
    | succ i =>
      obtain ⟨m, hm⟩ : ∃ m, L[i]? = some m := ⟨_, List.getElem?_eq_getElem (by omega)⟩
      intro e
      exact nbub i m hm (by simpa [blockAt, hm] using e)
  have at_succ : ∀ (j : Nat) (m : KN), L[j]? = some m → (m.g = blockAt bi L i ↔ j + 1 = i) := fun j m hm => by
    constructor
    · intro e
      cases i with
      | zero => exact absurd e (nbib j m hm)
      | succ i =>
        obtain ⟨m', hm'⟩ : ∃ m', L[i]? = some m' := ⟨_, List.getElem?_eq_getElem (by omega)⟩
        have e : m.g = m'.g := by simpa [blockAt, hm'] using e
        rw [h.nd j i m m' hm hm' e]
    · rintro rfl
      simp [blockAt, hm]
  refine ⟨?_, ?_, fun j m hm => ?_, fun m hm => hk _ _ (h.key m (List.mem_of_mem_eraseIdx hm)), fun a b m m' hm hm' e => ?_⟩
  · by_cases e : i = 0
    · subst e
      have := hp _ _ h.head
      rw [head_set] at this
      have h2 : nxt (L.eraseIdx 0) = nxt (L.drop 1) := by
        have a1 := nxt_drop (L.eraseIdx 0) 0
        rw [erase_get, if_neg (by omega)] at a1
        rw [nxt_drop]
        simpa using a1
      rw [h2]; exact this
    · rw [ho bi (nbib i n hn).symm (by
        intro e2
        obtain ⟨i', rfl⟩ : ∃ i', i = i' + 1 := ⟨i - 1, by omega⟩
        obtain ⟨m, hm⟩ : ∃ m, L[i']? = some m := ⟨_, List.getElem?_eq_getElem (by omega)⟩
        have e2 : bi = m.g := by simpa [blockAt, hm] using e2
        exact nbib i' m hm e2.symm), h.head]
      have h2 : nxt (L.eraseIdx i) = nxt L := by
        have a1 := nxt_drop (L.eraseIdx i) 0
        have a2 := nxt_drop L 0
        rw [erase_get, if_pos (by omega)] at a1
        simp only [List.drop_zero] at a1 a2
        rw [a1, a2]
      rw [h2]
  · rw [ho bu (nbub i n hn).symm (Ne.symm pu)]; exact h.up
  · rw [nxt_drop, erase_get]
    rw [erase_get] at hm
    by_cases h1 : j < i
    · rw [if_pos h1] at hm
      by_cases h2 : j + 1 = i
      · have e2 := (at_succ j m hm).2 h2
        have := hp _ _ (by rw [← e2]; exact h.node j m hm)
        rw [← e2, node_set, nxt_drop] at this
        rw [if_neg (by omega), h2]
        exact this
      · rw [if_pos (by omega), ho m.g (fun e => by have := h.nd j i m n hm hn e; omega) (fun e => h2 ((at_succ j m hm).1 e)), h.node j m hm, nxt_drop]
    · rw [if_neg h1] at hm
      rw [if_neg (by omega), ho m.g (fun e => by have := h.nd _ i m n hm hn e; omega) (fun e => by have := (at_succ _ m hm).1 e; omega), h.node _ m hm, nxt_drop]
  · rw [erase_get] at hm hm'
    by_cases a1 : a < i
    · rw [if_pos a1] at hm
      by_cases b1 : b < i
      · rw [if_pos b1] at hm'; exact h.nd a b m m' hm hm' e
      · rw [if_neg b1] at hm'; have := h.nd _ _ m m' hm hm' e; omega
    · rw [if_neg a1] at hm
      by_cases b1 : b < i
      · rw [if_pos b1] at hm'; have := h.nd _ _ m m' hm hm' e; omega
      · rw [if_neg b1] at hm'; have := h.nd _ _ m m' hm hm' e; omega

set_option maxHeartbeats 1000000 in
theorem remove_any (B bi bu i : Nat) (L : List KN) (n : KN) (w : World) (h : IL w bi bu L) (hn : L[i]? = some n) (hpos : pos L n.l = i) (hlo : Lo B bi L) (hBw : B ≤ w.heap.size) :
    Calls Yba.prog 20 #[.pointer (some ⟨bi, 0, none⟩), .pointer (some ⟨n.g, 0, none⟩)] w fun e w' => e = .returned (.tuple #[]) ∧ IL w' bi bu (L.eraseIdx i) ∧ w'.heap[n.g]? = some (.cells (nodeCells n false true (nxt (L.drop (i + 1)))) 106 (0, 0)) ∧ KFr w w' ∧ Below B w w' ∧ KB w' n.kb n.l := by
  have hnd := h.node i n hn
  have hk := h.key n (List.mem_of_getElem? hn)
  go_enter Yba.func20, Yba.ntmps20
  go_wp2_with fail
  have hB1 : Below w.heap.size w (w.alloc (.cells #[.pointer none, .pointer none, .pointer none, .pointer none, .pointer none, .pointer none, .pointer none, .pointer none, .pointer none, .pointer none, .pointer none, .pointer none, .pointer none, .pointer none, .pointer none, .pointer none, .pointer none, .pointer none, .pointer none, .pointer none] 120)) := (Below.refl _ _).alloc (Nat.le_refl _) _
  have harr : ∃ cs, (w.alloc (.cells #[.pointer none, .pointer none, .pointer none, .pointer none, .pointer none, .pointer none, .pointer none, .pointer none, .pointer none, .pointer none, .pointer none, .pointer none, .pointer none, .pointer none, .pointer none, .pointer none, .pointer none, .pointer none, .pointer none, .pointer none] 120)).heap[w.heap.size]? = some (.cells cs 120 (0, 0)) ∧ cs.size = 20 := ⟨_, heap_alloc_new _ _, rfl⟩
  generalize w.alloc (.cells #[.pointer none, .pointer none, .pointer none, .pointer none, .pointer none, .pointer none, .pointer none, .pointer none, .pointer none, .pointer none, .pointer none, .pointer none, .pointer none, .pointer none, .pointer none, .pointer none, .pointer none, .pointer none, .pointer none, .pointer none] 120) = w1 at hB1 harr ⊢
  have hn1 := blk_below hB1 hnd
  refine (skey_any n.g _ n.kb n.l.length n.kc (pre n.l) _ rfl (by rw [blk_cell hn1]; rfl) (by rw [blk_cell hn1]; rfl)).mono ?_
  rintro e w2 ⟨rfl, hB2⟩
  have hB2' : Below w.heap.size w w2 := hB1.trans (hB2.mono hB1.size)
  have harr2 : ∃ cs, w2.heap[w.heap.size]? = some (.cells cs 120 (0, 0)) ∧ cs.size = 20 := by
    obtain ⟨cs, e1, e2⟩ := harr
    exact ⟨cs, blk_below hB2 e1, e2⟩
  clear harr hn1
  go_wp2_with fail
  refine (seek_preds bi bu n.kb n.kc w.heap.size n.l L w w2 h hk hB2' (Nat.le_refl _) harr2).mono ?_
  rintro e w3 ⟨rfl, hB3, hp3⟩
  rw [hpos] at hp3 ⊢
  have hI3 := h.below hB3
  have hn3 := blk_below hB3 hnd
  obtain ⟨hil, _⟩ := List.getElem?_eq_some_iff.1 hn
  have h5 := hI3.next i (by omega)
  obtain ⟨cs, ty, hat, hty, _⟩ := hI3.at i (by omega)
  have n1 : blockAt bi L i ≠ n.g := by
    cases i with
    | zero =>
      intro e2
      have := h.head
      rw [show bi = n.g from e2, hnd] at this
      simp at this
    | succ i =>
      obtain ⟨m, hm⟩ : ∃ m, L[i]? = some m := ⟨_, List.getElem?_eq_getElem (by omega)⟩
      intro e2
      have e2 : m.g = n.g := by simpa [blockAt, hm] using e2
      have := h.nd i (i + 1) m n hm hn e2
      omega
  have f5 := blk_free hat 5
  have c7 : w3.cell? ⟨n.g, 7, none⟩ = some (.slice none 0 0) := by rw [blk_cell hn3]; rfl
  have c5 : w3.cell? ⟨n.g, 5, none⟩ = some (.pointer (nxt (L.drop (i + 1)))) := by rw [blk_cell hn3]; rfl
  have np := hI3.np (i + 1)
  have s1 := blk_set hat 5 (.pointer (nxt (L.drop (i + 1))))
  have s1' := (Below.heap_setCell w3 ⟨blockAt bi L i, 5, none⟩ (.pointer (nxt (L.drop (i + 1)))) n.g (Ne.symm n1)).trans hn3
  have c2 : (w3.setCell ⟨blockAt bi L i, 5, none⟩ (.pointer (nxt (L.drop (i + 1))))).cell? ⟨n.g, 2, none⟩ = some (.bool false) := by rw [blk_cell s1']; rfl
  have z2 := blk_free s1' 2
  have S1 := hide s1
  have S1' := hide s1'
  clear s1 s1'
  go_wp2_with (first | (go_at_call 26; refine (height_one _ _ c7).mono ?_; rintro e w' ⟨rfl, rfl⟩))
  refine wp_loop_rounds 2 ?_
  rw [rounds_succ]
  go_wp2_with (first | (go_at_call 24; refine (link_zero _ _ _).mono ?_; rintro e w' ⟨rfl, rfl⟩) | (go_at_call 12; refine (load_any n.g 5 _ _ c5 np).mono ?_; rintro e w' ⟨rfl, rfl⟩))
  refine (store_any (blockAt bi L i) 5 (nxt (L.drop (i + 1))) _ _ h5 f5 np).mono ?_
  rintro e w4 ⟨rfl, rfl⟩
  go_wp2_with fail
  rw [rounds_succ]
  go_wp2_with fail
  go_end0
  have s2 := blk_set (unhide S1') 2 (.bool true)
  have kall : ∀ kb l, KB w3 kb l → KB ((w3.setCell ⟨blockAt bi L i, 5, none⟩ (.pointer (nxt (L.drop (i + 1))))).setCell ⟨n.g, 2, none⟩ (.bool true)) kb l := fun kb l hkb => by
    have a1 := hkb.set (a := ⟨blockAt bi L i, 5, none⟩) (x := .pointer (nxt (L.drop (i + 1)))) hat (by rcases hty with e | e <;> rw [e] <;> decide)
    exact a1.set (a := ⟨n.g, 2, none⟩) (x := .bool true) (unhide S1') (by decide)
  refine ⟨rfl, ?_, s2, ?_, ?_, kall _ _ (hk.below hB3)⟩
  · refine il_remove hI3 hn (fun k k1 k2 => ?_) (fun cs' e' he' => ?_) kall
    · rw [Below.heap_setCell _ _ _ _ k1, Below.heap_setCell _ _ _ _ k2]
    · rw [hat] at he'
      simp only [Option.some.injEq, Obj.cells.injEq] at he'
      obtain ⟨rfl, rfl, _⟩ := he'
      rw [Below.heap_setCell _ _ _ _ n1]; exact unhide S1
  · have a1 := (KFr.of_below hB3).setCell (a := ⟨blockAt bi L i, 5, none⟩) hat hty (.pointer (nxt (L.drop (i + 1))))
    exact a1.setCell (a := ⟨n.g, 2, none⟩) (unhide S1') (Or.inl rfl) (.bool true)
  · exact ((hB3.mono hBw).setCell (p := ⟨blockAt bi L i, 5, none⟩) (hlo.blockAt _ (by omega)) _).setCell (p := ⟨n.g, 2, none⟩) (hlo.nd n (List.mem_of_getElem? hn)) _
end Go.Proofs.Ybulkapdi.K
