import Derived.Test.YbulkapdiNewS
namespace Go.Proofs.Ybulkapdi
open Go.RowKit

/-! ### The predecessor lists as the law makes them -/
def bump (preds : Nat → List Nat) (m : Nat) (e : Nat × Nat) : Nat → List Nat := if e.1 % m = e.2 % m then preds else fun t => if t = e.2 % m then preds t ++ [e.1 % m] else preds t
def predsTo (m : Nat) (ps : List (Nat × Nat)) : Nat → List Nat := ps.foldl (fun p e => bump p m e) (fun _ => [])

theorem predsTo_snoc (m : Nat) (ps : List (Nat × Nat)) (e : Nat × Nat) : predsTo m (ps ++ [e]) = bump (predsTo m ps) m e := by
  simp [predsTo]

theorem bump_len (preds : Nat → List Nat) (m : Nat) (e : Nat × Nat) (t : Nat) : (bump preds m e t).length ≤ (preds t).length + 1 := by
  unfold bump
  split
  · omega
  · dsimp only; split <;> simp

theorem foldl_len (m : Nat) (ps : List (Nat × Nat)) : ∀ (p : Nat → List Nat) (t : Nat), (ps.foldl (fun p e => bump p m e) p t).length ≤ (p t).length + ps.length := by
  induction ps with
  | nil => intro p t; simp
  | cons e ps ih =>
    intro p t
    have h1 := ih (bump p m e) t
    have h2 := bump_len p m e t
    simp only [List.foldl_cons, List.length_cons]
    omega

theorem predsTo_len (m : Nat) (ps : List (Nat × Nat)) (t : Nat) : (predsTo m ps t).length ≤ ps.length := by
  have := foldl_len m ps (fun _ => []) t
  simpa [predsTo] using this

theorem foldl_mem (m : Nat) (hm : 0 < m) (ps : List (Nat × Nat)) : ∀ (p : Nat → List Nat), (∀ t q, q ∈ p t → q < m ∧ q ≠ t) → ∀ t q, q ∈ ps.foldl (fun p e => bump p m e) p t → q < m ∧ q ≠ t := by
  induction ps with
  | nil => intro p h; exact h
  | cons e ps ih =>
    intro p h
    refine ih (bump p m e) ?_
    intro t q hq
    unfold bump at hq
    split at hq
    · exact h t q hq
    · rename_i hne
      dsimp only at hq
      split at hq
      · rename_i ht
        rcases List.mem_append.1 hq with hq | hq
        · exact h t q hq
        · simp at hq; subst hq
          exact ⟨Nat.mod_lt _ hm, by rw [ht]; exact hne⟩
      · exact h t q hq

theorem predsTo_mem (m : Nat) (hm : 0 < m) (ps : List (Nat × Nat)) : ∀ t q, q ∈ predsTo m ps t → q < m ∧ q ≠ t :=
  foldl_mem m hm ps _ (by simp)

/-- The rows of predecessors in memory. -/
structure PL (w0 wr : World) (bpr m : Nat) (preds : Nat → List Nat) (pv : Nat → Value) : Prop where
  cell : ∀ t, t < m → wr.cell? ⟨bpr, t, none⟩ = some (pv t)
  free : ∀ t, t < m → wr.frozen? ⟨bpr, t, none⟩ = false
  own : ∀ t, t < m → wr.ownsRow w0.heap.size 3 1 (pv t) (preds t).length (ints (preds t))
  apt : ∀ s t, s < m → t < m → s ≠ t → ∀ g, (pv s).ownBlock = some g → (pv t).ownBlock ≠ some g
  ne : ∀ t, t < m → (pv t).ownBlock ≠ some bpr
  below : Below w0.heap.size w0 wr
  lo : w0.heap.size ≤ bpr
  size : bpr < wr.heap.size

theorem PL.alloc {w0 wr : World} {bpr m : Nat} {preds : Nat → List Nat} {pv : Nat → Value} (h : PL w0 wr bpr m preds pv) (o : Obj) : PL w0 (wr.alloc o) bpr m preds pv := by
  have hb : Below wr.heap.size wr (wr.alloc o) := (Below.refl _ _).alloc (Nat.le_refl _) _
  exact ⟨fun t ht => cell_below hb (h.cell t ht), fun t ht => by rw [hb.frozen (World.block_lt_of_cell? _ _ (h.cell t ht))]; exact h.free t ht, fun t ht => ownsRow_below hb (h.own t ht), h.apt, h.ne,
    h.below.alloc h.below.size o, h.lo, by have := h.size; simp; omega⟩

theorem PL.push {w0 w w' : World} {bpr m : Nat} {preds : Nat → List Nat} {pv : Nat → Value} (h : PL w0 w bpr m preds pv) (b a : Nat) (hb : b < m) {v' : Value} {g : Nat} (hv' : v'.ownBlock = some g)
    (hg : w.grownBy w' (pv b).ownBlock) (ho : w'.ownsRow w0.heap.size 3 1 v' ((preds b).length + 1) (ints (preds b) ++ [.int .i64 (a : Int)])) (hat : (pv b).ownBlock = some g ∨ w.heap.size ≤ g) :
    PL w0 (w'.setCell ⟨bpr, b, none⟩ v') bpr m (fun t => if t = b then preds t ++ [a] else preds t) (fun t => if t = b then v' else pv t) := by
  have cg : ∀ t, t < m → w'.cell? ⟨bpr, t, none⟩ = some (pv t) := fun t ht => cell_grown hg (h.cell t ht) (fun g' hg' e => h.ne b hb (by rw [hg', e]))
  have gne : g ≠ bpr := by
    rcases hat with e | e
    · intro e2; exact h.ne b hb (by rw [e, e2])
    · have := h.size; omega
  have far : ∀ t, t < m → t ≠ b → (pv t).ownBlock ≠ some g := fun t ht hne e => by
    rcases hat with e2 | e2
    · exact h.apt t b ht hb hne g e e2
    · have := ((h.own t ht).lt g e).2; omega
  refine ⟨fun t ht => ?_, fun t ht => ?_, fun t ht => ?_, fun s t hs ht hst g' hg' => ?_, fun t ht => ?_, ?_, h.lo, ?_⟩
  · by_cases e : t = b
    · subst e; rw [World.cell?_setCell_same _ _ _ (cg t ht)]; simp
    · rw [World.cell?_setCell_other _ _ _ _ (fun e' => e (congrArg Addr.off e').symm), cg t ht]; simp [e]
  · rw [World.frozen?_setCell, hg.frozen_far _ (World.block_lt_of_cell? _ _ (h.cell t ht)) (fun e => h.ne b hb e.symm)]; exact h.free t ht
  · by_cases e : t = b
    · subst e
      simp only [if_true]
      refine ownsRow_set ?_ (by rw [hv']; simp; exact gne) _
      simpa [ints] using ho
    · simp only [e, if_false]
      refine ownsRow_set ((h.own t ht).kept hg ?_) (h.ne t ht) _
      cases e2 : (pv t).ownBlock with
      | none => exact Or.inl rfl
      | some g2 => exact Or.inr (fun e3 => h.apt t b ht hb e g2 e2 e3.symm)
  · by_cases e1 : s = b
    · simp only [e1, if_true] at hg'
      rw [hv'] at hg'
      have e2 : ¬ t = b := fun e2 => hst (by rw [e1, e2])
      simp only [e2, if_false]
      rw [← hg']; exact far t ht e2
    · simp only [e1, if_false] at hg'
      by_cases e2 : t = b
      · simp only [e2, if_true]
        rw [hv']
        intro e3
        exact far s hs e1 (by rw [e3]; exact hg')
      · simp only [e2, if_false]; exact h.apt s t hs ht hst g' hg'
  · by_cases e : t = b
    · simp only [e, if_true]; rw [hv']; simp; exact gne
    · simp only [e, if_false]; exact h.ne t ht
  · refine (h.below.grown hg h.below.size (fun k hk => ((h.own b hb).lt k hk).1)).setCell h.lo _
  · have := h.size; have := hg.size; simp; omega

/-- What '&MVHistory{txns: make(..), reads: make(..)}' makes. -/
structure NewH (w w' : World) (m bh brd : Nat) : Prop where
  h0 : ∃ bt, w'.cell? ⟨bh, 0, none⟩ = some (.slice (some ⟨bt, 0, none⟩) m m)
  h1 : w'.cell? ⟨bh, 1, none⟩ = some (.slice (some ⟨brd, 0, none⟩) m m)
  rd : ∀ t, t < m → w'.cell? ⟨brd, t, none⟩ = some (.slice none 0 0)
  l1 : w.heap.size ≤ bh
  l2 : w.heap.size ≤ brd
  g1 : bh < w'.heap.size
  g2 : brd < w'.heap.size
  below : Below w.heap.size w w'

theorem newH_of {w w' : World} {m bh brd bt : Nat} {cs : Array Value} (hb : w'.heap[bh]? = some (.cells cs 32 (0, 0))) (hcs : cs[0]? = some (.slice (some ⟨bt, 0, none⟩) m m)) (hcs1 : cs[1]? = some (.slice (some ⟨brd, 0, none⟩) m m))
    (hr : w'.heap[brd]? = some (.cells (Array.replicate m (.slice none 0 0)) 148 (0, 0))) (l1 : w.heap.size ≤ bh) (l2 : w.heap.size ≤ brd) (below : Below w.heap.size w w') : NewH w w' m bh brd := by
  have c : ∀ i, w'.cell? ⟨bh, i, none⟩ = cs[i]? := fun i => by simp [World.cell?, hb]
  have c2 : ∀ i, w'.cell? ⟨brd, i, none⟩ = (Array.replicate m (Value.slice none 0 0))[i]? := fun i => by simp [World.cell?, hr]
  have lt : ∀ {k : Nat} {o : Obj}, w'.heap[k]? = some o → k < w'.heap.size := fun {k o} hk => by
    rcases Nat.lt_or_ge k w'.heap.size with h | h
    · exact h
    · rw [Array.getElem?_eq_none h] at hk; cases hk
  exact ⟨⟨bt, by rw [c, hcs]⟩, by rw [c, hcs1], fun t ht => by rw [c2]; simp [ht], l1, l2, lt hb, lt hr, below⟩

/-! ### Whole blocks -/
theorem blk_cell {w : World} {g : Nat} {cs : Array Value} {e : TypeId} (h : w.heap[g]? = some (.cells cs e (0, 0))) (i : Nat) : w.cell? ⟨g, i, none⟩ = cs[i]? := by simp [World.cell?, h]
theorem blk_free {w : World} {g : Nat} {cs : Array Value} {e : TypeId} (h : w.heap[g]? = some (.cells cs e (0, 0))) (i : Nat) : w.frozen? ⟨g, i, none⟩ = false := by simp [World.frozen?, h]
theorem blk_set {w : World} {g : Nat} {cs : Array Value} {e : TypeId} (h : w.heap[g]? = some (.cells cs e (0, 0))) (i : Nat) (v : Value) : (w.setCell ⟨g, i, none⟩ v).heap[g]? = some (.cells (cs.setIfInBounds i v) e (0, 0)) := by
  simp [World.setCell, Array.getElem?_modify, h]

/-- w' is w but for the blocks in S and new ones. -/
structure Fr (S : Nat → Prop) (w w' : World) : Prop where
  os : w'.os = w.os
  tape : w'.tape = w.tape
  output : w'.output = w.output
  size : w.heap.size ≤ w'.heap.size
  block : ∀ k, k < w.heap.size → ¬ S k → w'.heap[k]? = w.heap[k]?

theorem Fr.refl (S : Nat → Prop) (w : World) : Fr S w w := ⟨rfl, rfl, rfl, Nat.le_refl _, fun _ _ _ => rfl⟩
theorem Fr.setCell {S : Nat → Prop} {w w' : World} (h : Fr S w w') {a : Addr} (ha : S a.block) (v : Value) : Fr S w (w'.setCell a v) :=
  ⟨h.os, h.tape, h.output, by simpa using h.size, fun k hk hs => by rw [Below.heap_setCell w' a v k (fun e => hs (by rw [e]; exact ha))]; exact h.block k hk hs⟩
theorem Fr.cell {S : Nat → Prop} {w w' : World} (h : Fr S w w') {a : Addr} {v : Value} (hc : w.cell? a = some v) (hs : ¬ S a.block) : w'.cell? a = some v := by
  rw [World.cell?_of_block (w := w) (h.block a.block (World.block_lt_of_cell? _ _ hc) hs)]; exact hc
theorem Fr.own {S : Nat → Prop} {w w' : World} (h : Fr S w w') {base : Nat} {e : TypeId} {size : Nat} {v : Value} {n : Nat} {xs : List Value} (ho : w.ownsRow base e size v n xs) (hs : ∀ g, v.ownBlock = some g → ¬ S g) : w'.ownsRow base e size v n xs := by
  obtain ⟨h1, h2⟩ := ho
  refine ⟨h1, ?_⟩
  rcases h2 with h2 | ⟨g, cap, cur, hv, hg, hh, r⟩
  · exact Or.inl h2
  · refine Or.inr ⟨g, cap, cur, hv, hg, ?_, r⟩
    rw [h.block g (lt_of_block hh) (hs g (by rw [hv]; rfl))]
    exact hh
theorem Fr.below {S : Nat → Prop} {w w' : World} (h : Fr S w w') {B : Nat} (hB : B ≤ w.heap.size) (hs : ∀ k, k < B → ¬ S k) : Below B w w' :=
  ⟨h.os, h.tape, h.output, h.size, fun k hk => h.block k (by omega) (hs k hk)⟩

/-- 0, 1, .., k-1, then zeros: m numbers. -/
def upTo (m k : Nat) : Array Value := ((List.range m).map fun i => if i < k then Value.int .i64 (i : Int) else .int .i64 0).toArray
theorem upTo_get (m k i : Nat) (h : i < m) : (upTo m k)[i]? = some (if i < k then Value.int .i64 (i : Int) else .int .i64 0) := by
  simp [upTo, h]
theorem upTo_zero (m : Nat) : upTo m 0 = Array.replicate m (.int .i64 0) := by
  apply Array.toList_inj.1
  simp only [upTo, Nat.not_lt_zero, if_false, Array.toList_replicate]
  rw [List.map_const', List.length_range]
theorem upTo_set (m k : Nat) : (upTo m k).setIfInBounds k (.int .i64 (k : Int)) = upTo m (k + 1) := by
  apply Array.ext_getElem?
  intro i
  rw [Array.getElem?_setIfInBounds]
  by_cases h : i < m
  · rw [upTo_get m (k + 1) i h]
    by_cases e : k = i
    · subst e; simp [upTo, h]
    · rw [if_neg e, upTo_get m k i h]
      have : (i < k + 1) = (i < k) := by simp; omega
      simp [this]
  · have h1 : ∀ j, (upTo m j)[i]? = none := fun j => by simp [upTo]; omega
    rw [h1, h1]
    split
    · rename_i e
      split
      · rename_i h2; subst e; simp [upTo] at h2; omega
      · rfl
    · rfl

/-- From the blocks to the search's memory. -/
theorem XS_of {w0 w wl : World} {σ : Shape} {m : Nat} {preds : Nat → List Nat}
    (hs : w.heap[σ.bs]? = some (.cells #[.pointer (some ⟨σ.bh, 0, none⟩), .slice (some ⟨σ.bpr, 0, none⟩) m m, .slice (some ⟨σ.bpl, 0, none⟩) m m, .slice (some ⟨σ.bpt, 0, none⟩) m m, .slice none 0 0, .slice (some ⟨σ.blo, 0, none⟩) m m] 37 (0, 0)))
    (hp : w.heap[σ.bpl]? = some (.cells (Array.replicate m (.bool false)) 4 (0, 0))) (ht : w.heap[σ.bpt]? = some (.cells (upTo m m) 3 (0, 0))) (hl : w.heap[σ.blo]? = some (.cells (upTo m m) 3 (0, 0)))
    (h1 : w.cell? ⟨σ.bh, 1, none⟩ = some (.slice (some ⟨σ.brd, 0, none⟩) m m)) (rd : ∀ t, t < m → w.cell? ⟨σ.brd, t, none⟩ = some (.slice none 0 0))
    (hP : PL w0 wl σ.bpr m preds σ.pv) (pr : ∀ t, t < m → w.cell? ⟨σ.bpr, t, none⟩ = some (σ.pv t)) (po : ∀ t, t < m → w.ownsRow w0.heap.size 3 1 (σ.pv t) (preds t).length (ints (preds t)))
    (ap : Apart σ m) (b1 : w0.heap.size ≤ σ.bs) (b2 : w0.heap.size ≤ σ.bpl) : XS w σ w0.heap.size m preds (fun _ => false) (.slice none 0 0) [] := by
  have _ := hP.lo
  refine ⟨⟨by rw [blk_cell hs]; rfl, by rw [blk_cell hs]; rfl, by rw [blk_cell hs]; rfl, by rw [blk_cell hs]; rfl, by rw [blk_cell hs]; rfl, h1, rd, fun t h => ?_, fun t h => ?_, fun t h => ?_, pr, po⟩, by rw [blk_cell hs]; rfl, blk_free hs 4, fun t _ => blk_free hp t, World.ownsRow_nil _ _ _ _, ap, fun g hg => by simp [Value.ownBlock] at hg, b1, b2⟩
  · rw [blk_cell ht, upTo_get m m t h]; simp [h]
  · rw [blk_cell hl, upTo_get m m t h]; simp [h]
  · rw [blk_cell hp]; simp [h]

/-! ### The search as the law calls it -/
def gAll (m : Nat) (preds : Nat → List Nat) : Option ((Nat → Bool) × List Nat) := greedy m preds m (fun _ => false) []
def gPl (m : Nat) (preds : Nat → List Nat) : Nat → Bool := ((gAll m preds).getD (fun _ => false, [])).1
def gOr (m : Nat) (preds : Nat → List Nat) : List Nat := ((gAll m preds).getD (fun _ => false, [])).2

theorem ext_top (σ : Shape) (B0 m : Nat) (preds : Nat → List Nat) (hm : m ≤ 255) (hlen : ∀ t, (preds t).length ≤ 1024) (hpr : ∀ t p, t < m → p ∈ preds t → p < m ∧ p ≠ t) (w : World) (h : XS w σ B0 m preds (fun _ => false) (.slice none 0 0) []) (hB : B0 ≤ w.heap.size) :
    Calls Yba.prog 6 #[.pointer (some ⟨σ.bs, 0, none⟩)] w fun e w' => ∃ ov', e = .returned (.bool (gAll m preds).isSome) ∧ XS w' σ B0 m preds (gPl m preds) ov' (gOr m preds) ∧ Below B0 w w' := by
  cases ha : addAll m (edgesTo preds (fun _ => false) m) (fun _ _ => 0) with
  | none =>
    have h0 : 1 ≤ m := by
      rcases Nat.eq_zero_or_pos m with e | e
      · subst e; simp [edgesTo, addAll] at ha
      · exact e
    have hg : gAll m preds = none := greedy_none hpr ha
    refine (extend_cyclic σ B0 m preds (fun _ => false) _ [] w h h0 hm (by simp; omega) (fun t _ => Nat.le_trans (hlen t) (by omega)) hpr ha).mono ?_
    rintro e w' ⟨rfl, hb⟩
    refine ⟨.slice none 0 0, by rw [hg]; rfl, ?_, hb.mono hB⟩
    have := h.below hb
    simpa [gPl, gOr, hg] using this
  | some R =>
    obtain ⟨rank, hr⟩ := rank_of_addAll hpr ha
    obtain ⟨pl', o', hg⟩ := greedy_some rank hr m (fun _ => false) [] (by rw [left_all]; exact Nat.le_refl _)
    have hg' : gAll m preds = some (pl', o') := hg
    refine (extend_any σ B0 m preds hm (fun t _ => Nat.le_trans (hlen t) (by omega)) rank hr m (fun _ => false) _ [] w pl' o' h hB (by simp) hg).mono ?_
    rintro e w' ⟨rfl, ⟨ov', hx⟩, hb⟩
    refine ⟨ov', by rw [hg']; rfl, ?_, hb⟩
    simpa [gPl, gOr, hg'] using hx

/-- What the law has laid ahead of the search. -/
theorem setup_XS {w w1 w2 w3 w4 wr : World} {m bh brd bs bpl blo T : Nat} {preds : Nat → List Nat} {pv : Nat → Value} (hP : PL w w1 w.heap.size m preds pv) (hH : NewH w1 w2 m bh brd) (hN : NewS w2 w3 bh w.heap.size m bs bpl blo) (hT : w3.heap.size = T)
    (hb4 : Below w3.heap.size w3 w4) (hz4 : T < w4.heap.size) (hF : Fr (fun j => j = T ∨ j = blo) w4 wr) (hTb : wr.heap[T]? = some (.cells (upTo m m) 3 (0, 0))) (hL : wr.heap[blo]? = some (.cells (upTo m m) 3 (0, 0))) :
    XS ((wr.setCell ⟨bs, 3, none⟩ (.slice (some ⟨T, 0, none⟩) m m)).setCell ⟨bs, 4, none⟩ (.slice none 0 0)) ⟨bs, bh, w.heap.size, bpl, T, blo, brd, pv, .slice none 0 0⟩ w.heap.size m preds (fun _ => false) (.slice none 0 0) [] ∧
      Below w.heap.size w ((wr.setCell ⟨bs, 3, none⟩ (.slice (some ⟨T, 0, none⟩) m m)).setCell ⟨bs, 4, none⟩ (.slice none 0 0)) ∧ wr.heap[bs]? = some (.cells #[.pointer (some ⟨bh, 0, none⟩), .slice (some ⟨w.heap.size, 0, none⟩) m m, .slice (some ⟨bpl, 0, none⟩) m m, .slice none 0 0, .slice none 0 0, .slice (some ⟨blo, 0, none⟩) m m] 37 (0, 0)) := by
  have z1 := hP.size
  have z2 := hH.l1
  have z3 := hH.l2
  have z4 := hH.g1
  have z5 := hH.g2
  have z6 := hN.l1
  have z7 := hN.l2
  have z8 := hN.l3
  have z9 := lt_of_block hN.hs
  have z10 := lt_of_block hN.hp
  have z11 := lt_of_block hN.hl
  have z12 := hb4.size
  have y1 := hN.n1
  have y2 := hN.n2
  have y3 := hN.n3
  have hs5 : wr.heap[bs]? = w4.heap[bs]? := hF.block bs (by omega) (by intro h; omega)
  rw [hb4.block bs z9, hN.hs] at hs5
  have hp5 : wr.heap[bpl]? = w4.heap[bpl]? := hF.block bpl (by omega) (by intro h; omega)
  rw [hb4.block bpl z10, hN.hp] at hp5
  have hs6 := blk_set (blk_set hs5 3 (.slice (some ⟨T, 0, none⟩) m m)) 4 (.slice none 0 0)
  have oth : ∀ k, k ≠ bs → ((wr.setCell ⟨bs, 3, none⟩ (.slice (some ⟨T, 0, none⟩) m m)).setCell ⟨bs, 4, none⟩ (.slice none 0 0)).heap[k]? = wr.heap[k]? := fun k hk => by
    rw [Below.heap_setCell _ _ _ _ hk, Below.heap_setCell _ _ _ _ hk]
  have hF6 : Fr (fun j => j = T ∨ j = blo ∨ j = bs) w4 ((wr.setCell ⟨bs, 3, none⟩ (.slice (some ⟨T, 0, none⟩) m m)).setCell ⟨bs, 4, none⟩ (.slice none 0 0)) := by
    have a1 : Fr (fun j => j = T ∨ j = blo ∨ j = bs) w4 wr := ⟨hF.os, hF.tape, hF.output, hF.size, fun k hk hs => hF.block k hk (fun h => hs (by rcases h with h | h; · exact Or.inl h
                                                                                                                                                 · exact Or.inr (Or.inl h)))⟩
    exact (a1.setCell (a := ⟨bs, 3, none⟩) (Or.inr (Or.inr rfl)) _).setCell (a := ⟨bs, 4, none⟩) (Or.inr (Or.inr rfl)) _
  have pvlt : ∀ t, t < m → ∀ g, (pv t).ownBlock = some g → g < w1.heap.size := fun t ht g hg => ((hP.own t ht).lt g hg).2
  have hB13 : Below w1.heap.size w1 w4 := (hH.below.trans (hN.below.mono (by omega))).trans (hb4.mono (by have := hN.below.size; omega))
  refine ⟨XS_of (w0 := w) (wl := w1) hs6 ((oth bpl (by omega)).trans hp5) ((oth T (by omega)).trans hTb) ((oth blo (by omega)).trans hL) ?_ (fun t ht => ?_) hP (fun t ht => ?_) (fun t ht => ?_) ?_ (by dsimp only; omega) (by dsimp only; omega), ?_, hs5⟩
  · exact hF6.cell (cell_below hb4 (cell_below hN.below hH.h1)) (by dsimp only; omega)
  · exact hF6.cell (cell_below hb4 (cell_below hN.below (hH.rd t ht))) (by dsimp only; omega)
  · exact hF6.cell (cell_below hB13 (hP.cell t ht)) (by dsimp only; omega)
  · exact hF6.own (ownsRow_below hB13 (hP.own t ht)) (fun g hg => by have := pvlt t ht g hg; omega)
  · refine ⟨?_, ?_, ?_, ?_, ?_, ?_, ?_, ?_, ?_, ?_, ?_, fun t ht e => ?_, fun t ht e => ?_⟩
    all_goals first | (dsimp only; omega) | (have := pvlt t ht _ e; dsimp only at *; omega)
  · exact (hP.below.trans ((hB13.mono (by omega)))).trans (hF6.below (by omega) (fun k hk => by omega))

/-- The law's own order in the making: 'done' lies in block w5.heap.size, 'want' behind it. -/
structure DN (w5 wr : World) (m : Nat) (pl : Nat → Bool) (o : List Nat) (v : Value) : Prop where
  cell : ∀ t, t < m → wr.cell? ⟨w5.heap.size, t, none⟩ = some (.bool (pl t))
  free : ∀ t, t < m → wr.frozen? ⟨w5.heap.size, t, none⟩ = false
  own : wr.ownsRow (w5.heap.size + 1) 3 1 v o.length (ints o)
  below : Below w5.heap.size w5 wr
  size : w5.heap.size < wr.heap.size

theorem DN.mark {w5 wr : World} {m : Nat} {pl : Nat → Bool} {o : List Nat} {v : Value} (h : DN w5 wr m pl o v) (t : Nat) (ht : t < m) : DN w5 (wr.setCell ⟨w5.heap.size, t, none⟩ (.bool true)) m (setP pl t) o v := by
  refine ⟨fun x hx => ?_, fun x hx => by rw [World.frozen?_setCell]; exact h.free x hx, ownsRow_set h.own (fun e => ?_) _, h.below.setCell (Nat.le_refl _) _, by simpa using h.size⟩
  · by_cases e : x = t
    · subst e; rw [World.cell?_setCell_same _ _ _ (h.cell x hx)]; simp [setP]
    · rw [World.cell?_setCell_other _ _ _ _ (fun e' => e (congrArg Addr.off e').symm), h.cell x hx]; simp [setP, e]
  · have := (h.own.lt _ e).1
    dsimp only at this; omega

theorem DN.grown {w5 w w' : World} {m : Nat} {pl : Nat → Bool} {o : List Nat} {v : Value} (h : DN w5 w m pl o v) {v' : Value} {o' : List Nat} (hg : w.grownBy w' v.ownBlock) (ho : w'.ownsRow (w5.heap.size + 1) 3 1 v' o'.length (ints o')) : DN w5 w' m pl o' v' := by
  have ne : ∀ g, v.ownBlock = some g → g ≠ w5.heap.size := fun g e => by have := (h.own.lt g e).1; omega
  refine ⟨fun x hx => cell_grown hg (h.cell x hx) ne, fun x hx => ?_, ho, h.below.grown hg h.below.size (fun k hk => by have := (h.own.lt k hk).1; omega), Nat.lt_of_lt_of_le h.size hg.size⟩
  rw [hg.frozen_far _ (World.block_lt_of_cell? _ _ (h.cell x hx)) (fun e => ne _ e.symm rfl)]; exact h.free x hx

theorem DN.alloc {w5 w : World} {m : Nat} {pl : Nat → Bool} {o : List Nat} {v : Value} (h : DN w5 w m pl o v) (b : Obj) : DN w5 (w.alloc b) m pl o v := by
  have hb : Below w.heap.size w (w.alloc b) := (Below.refl _ _).alloc (Nat.le_refl _) _
  exact ⟨fun x hx => cell_below hb (h.cell x hx), fun x hx => by rw [hb.frozen (World.block_lt_of_cell? _ _ (h.cell x hx))]; exact h.free x hx, ownsRow_below hb h.own, h.below.alloc h.below.size _, by have := h.size; simp; omega⟩

theorem nextP_none_of {m : Nat} {preds : Nat → List Nat} {pl : Nat → Bool} (h : ∀ u, u < m → free preds pl u = false) : nextP m preds pl = none := by
  apply List.find?_eq_none.2
  intro x hx
  rw [h x (by simpa using hx)]; simp

theorem nextP_first {m : Nat} {preds : Nat → List Nat} {pl : Nat → Bool} {t : Nat} (ht : t < m) (h : ∀ u, u < t → free preds pl u = false) (hf : free preds pl t = true) : nextP m preds pl = some t := by
  unfold nextP
  have e : List.range m = List.range t ++ (List.range (m - t)).map (t + ·) := by
    rw [← List.range_add]; congr 1; omega
  rw [e, List.find?_append, List.find?_eq_none.2 (fun x hx => by rw [h x (by simpa using hx)]; simp)]
  obtain ⟨d, hd⟩ : ∃ d, m - t = d + 1 := ⟨m - t - 1, by omega⟩
  rw [hd, List.range_succ_eq_map]
  simp [hf]

theorem gAll_none_of {m s : Nat} {preds : Nat → List Nat} {pl : Nat → Bool} {o : List Nat} (hs : s < m) (hg : greedy m preds s (fun _ => false) [] = some (pl, o)) (hn : nextP m preds pl = none) : gAll m preds = none := by
  have h1 : greedy m preds (s + 1) (fun _ => false) [] = none := by rw [greedy_snoc, hg]; simp [hn]
  have : ∀ d, greedy m preds (s + 1 + d) (fun _ => false) [] = none := by
    intro d
    induction d with
    | zero => exact h1
    | succ d ih => rw [← Nat.add_assoc, greedy_snoc, ih]; rfl
  have := this (m - (s + 1))
  rw [show s + 1 + (m - (s + 1)) = m from by omega] at this
  exact this

theorem greedy_next {m s t : Nat} {preds : Nat → List Nat} {pl : Nat → Bool} {o : List Nat} (hg : greedy m preds s (fun _ => false) [] = some (pl, o)) (hn : nextP m preds pl = some t) : greedy m preds (s + 1) (fun _ => false) [] = some (setP pl t, o ++ [t]) := by
  rw [greedy_snoc, hg]; simp [hn]

/-- A row of numbers, looked into. -/
theorem own_look {w : World} {base : Nat} {v : Value} {l : List Nat} (h : w.ownsRow base 3 1 v l.length (ints l)) :
    ∃ ao cap, v = .slice ao l.length cap ∧ (l.length = 0 ∨ ∃ g, ao = some ⟨g, 0, none⟩ ∧ ∀ (j x : Nat), l[j]? = some x → w.cell? ⟨g, j, none⟩ = some (.int .i64 (x : Int))) := by
  obtain ⟨h1, h2⟩ := h
  rcases h2 with ⟨e, hn⟩ | ⟨g, cap, cur, hv, hg, hh, r⟩
  · exact ⟨none, 0, by rw [e, hn], Or.inl hn⟩
  · refine ⟨some ⟨g, 0, none⟩, cap, hv, Or.inr ⟨g, rfl, fun j x hj => ?_⟩⟩
    have hc := World.ownsRow.cellAt (w := w) (base := base) (e := 3) (size := 1) (g := g) (n := l.length) (cap := cap) (xs := ints l) ⟨h1, Or.inr ⟨g, cap, cur, rfl, hg, hh, r⟩⟩ j (by
      obtain ⟨hlt, _⟩ := List.getElem?_eq_some_iff.1 hj; omega)
    rw [hc]
    simp [ints, hj]

end Go.Proofs.Ybulkapdi
