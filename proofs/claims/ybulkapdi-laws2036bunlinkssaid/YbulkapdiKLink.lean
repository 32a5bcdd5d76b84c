import Derived.Test.YbulkapdiKSeekP
namespace Go.Proofs.Ybulkapdi.K
open Go.RowKit
attribute [local go_sem ↓] Go.wp_at_zero Go.wp_at_succ

set_option maxHeartbeats 1000000 in
theorem linkAfter_any (g p0 bp : Nat) (nx : Option Addr) (n : KN) (w : World) (hn : w.heap[g]? = some (.cells (nodeCells n true false none) 106 (0, 0))) (hp : w.cell? ⟨bp, 0, none⟩ = some (.pointer (some ⟨p0, 0, none⟩)))
    (h5 : w.cell? ⟨p0, 5, none⟩ = some (.pointer nx)) (f5 : w.frozen? ⟨p0, 5, none⟩ = false) (hnp : NP w nx) (n1 : p0 ≠ g) (n2 : bp ≠ g) :
    Calls Yba.prog 16 #[.pointer (some ⟨g, 0, none⟩), .pointer (some ⟨bp, 0, none⟩)] w fun e w' => e = .returned (.tuple #[]) ∧ ∃ q, w' = (((w.setCell ⟨g, 5, none⟩ (.pointer nx)).setCell ⟨p0, 5, none⟩ (.pointer (some ⟨g, 0, none⟩))).setCell ⟨g, 1, none⟩ (.bool false)).drewN q := by
  have c7 : w.cell? ⟨g, 7, none⟩ = some (.slice none 0 0) := by rw [blk_cell hn]; rfl
  have c5 : w.cell? ⟨g, 5, none⟩ = some (.pointer none) := by rw [blk_cell hn]; rfl
  have z5 := blk_free hn 5
  have s1 : (w.setCell ⟨g, 5, none⟩ (.pointer nx)).cell? ⟨bp, 0, none⟩ = some (.pointer (some ⟨p0, 0, none⟩)) := by
    rw [World.cell?_setCell_other _ _ _ _ (fun e => n2 (congrArg Addr.block e).symm)]; exact hp
  have s2 : (w.setCell ⟨g, 5, none⟩ (.pointer nx)).cell? ⟨p0, 5, none⟩ = some (.pointer nx) := by
    rw [World.cell?_setCell_other _ _ _ _ (fun e => n1 (congrArg Addr.block e).symm)]; exact h5
  have hs2 : ((w.setCell ⟨g, 5, none⟩ (.pointer nx)).drew).shape? g = some (106, 8) := blk_shape (blk_set hn 5 (.pointer nx))
  have b2 : ((w.setCell ⟨g, 5, none⟩ (.pointer nx)).setCell ⟨p0, 5, none⟩ (.pointer (some ⟨g, 0, none⟩))).heap[g]? = some (.cells ((nodeCells n true false none).setIfInBounds 5 (.pointer nx)) 106 (0, 0)) := by
    rw [Below.heap_setCell _ _ _ _ (Ne.symm n1)]; exact blk_set hn 5 _
  have s3 : ((w.setCell ⟨g, 5, none⟩ (.pointer nx)).setCell ⟨p0, 5, none⟩ (.pointer (some ⟨g, 0, none⟩))).cell? ⟨g, 1, none⟩ = some (.bool true) := by rw [blk_cell b2]; rfl
  have z3 := blk_free b2 1
  have HS := hide hs2
  clear b2 hs2
  go_enter Yba.func16, Yba.ntmps16
  go_wp2_with (first | (go_at_call 26; refine (height_one _ _ c7).mono ?_; rintro e w' ⟨rfl, rfl⟩))
  refine wp_loop_rounds 2 ?_
  rw [rounds_succ]
  go_wp2_with fail
  go_region_held3 (fun w' => w'.cell? ⟨bp, 0, none⟩ = some (.pointer (some ⟨p0, 0, none⟩)) ∧ w'.cell? ⟨p0, 5, none⟩ = some (.pointer nx)) (go_keep)
    (first | (go_at_call 24; refine (link_zero _ _ _).mono ?_; rintro e w' ⟨rfl, rfl⟩) | (go_at_call 12; refine (load_any _ _ nx _ ?_ ?_).mono ?_; (simp [*]); (exact hnp); rintro e w' ⟨rfl, rfl⟩) | (go_at_call 27; refine (store_any _ _ _ (.pointer none) _ ?_ ?_ ?_).mono ?_; (simp [*]); (simp [*]); (exact hnp); rintro e w' ⟨rfl, rfl⟩))
  go_wp2_with (first | (go_at_call 24; refine (link_zero _ _ _).mono ?_; rintro e w' ⟨rfl, rfl⟩))
  refine (store_any p0 5 (some ⟨g, 0, none⟩) (.pointer nx) _ (by simpa using s2) (by simpa using f5) (Or.inr ⟨g, rfl, unhide HS⟩)).mono ?_
  rintro e w' ⟨rfl, rfl⟩
  go_wp2_with fail
  rw [rounds_succ]
  go_wp2_with fail
  go_end0
  exact ⟨rfl, 1, rfl⟩
/-! ### The list behind a link and behind a removal -/
theorem nxt_drop (L : List KN) (k : Nat) : nxt (L.drop k) = (L[k]?).map fun n => ⟨n.g, 0, none⟩ := by
  cases hk : L[k]? with
  | none => rw [List.drop_of_length_le (List.getElem?_eq_none_iff.1 hk)]; rfl
  | some n => rw [nxt_drop_some hk]; rfl

def ins (L : List KN) (i : Nat) (n : KN) : List KN := L.take i ++ n :: L.drop i

theorem ins_get (L : List KN) (i : Nat) (n : KN) (hi : i ≤ L.length) (j : Nat) : (ins L i n)[j]? = if j < i then L[j]? else if j = i then some n else L[j - 1]? := by
  unfold ins
  have hl : (L.take i).length = i := by simp; omega
  by_cases h1 : j < i
  · rw [if_pos h1, List.getElem?_append_left (by omega), List.getElem?_take_of_lt h1]
  · rw [if_neg h1, List.getElem?_append_right (by omega), hl]
    by_cases h2 : j = i
    · rw [if_pos h2, h2, Nat.sub_self]; rfl
    · rw [if_neg h2]
      obtain ⟨d, hd⟩ : ∃ d, j = i + 1 + d := ⟨j - (i + 1), by omega⟩
      subst hd
      rw [show i + 1 + d - i = d + 1 from by omega, List.getElem?_cons_succ, List.getElem?_drop, show i + 1 + d - 1 = i + d from by omega]

theorem erase_get (L : List KN) (i j : Nat) : (L.eraseIdx i)[j]? = if j < i then L[j]? else L[j + 1]? := List.getElem?_eraseIdx

/-- w' is w but for the blocks of nodes and of the head, and new ones. -/
structure KFr (w w' : World) : Prop where
  size : w.heap.size ≤ w'.heap.size
  block : ∀ (k : Nat) (cs : Array Value) (e : TypeId) (fr : Nat × Nat), w.heap[k]? = some (.cells cs e fr) → e ≠ 106 → e ≠ 111 → w'.heap[k]? = some (.cells cs e fr)

theorem KFr.trans {a b c : World} (h : KFr a b) (k : KFr b c) : KFr a c := ⟨Nat.le_trans h.size k.size, fun x cs e fr hx h1 h2 => k.block x cs e fr (h.block x cs e fr hx h1 h2) h1 h2⟩
theorem KFr.of_below {w w' : World} (h : Below w.heap.size w w') : KFr w w' := ⟨h.size, fun _ _ _ _ hx _ _ => blk_below h hx⟩
theorem KFr.setCell {w w' : World} (h : KFr w w') {a : Addr} {cs : Array Value} {e : TypeId} {fr : Nat × Nat} (ha : w'.heap[a.block]? = some (.cells cs e fr)) (he : e = 106 ∨ e = 111) (v : Value) : KFr w (w'.setCell a v) := by
  refine ⟨by simpa using h.size, fun x cs' e' fr' hx h1 h2 => ?_⟩
  have := h.block x cs' e' fr' hx h1 h2
  rw [Below.heap_setCell _ _ _ _ (by
    rintro rfl
    rw [ha] at this
    simp only [Option.some.injEq, Obj.cells.injEq] at this
    rcases he with he | he
    · exact h1 (by rw [← this.2.1, he])
    · exact h2 (by rw [← this.2.1, he]))]
  exact this

theorem KB.set {w : World} {kb : Nat} {l : List UInt8} (h : KB w kb l) {a : Addr} {x : Value} {cs : Array Value} {e : TypeId} {fr : Nat × Nat} (ha : w.heap[a.block]? = some (.cells cs e fr)) (he : e ≠ 5) : KB (w.setCell a x) kb l := by
  obtain ⟨cs', fr', hty⟩ := h.ty
  have hne : kb ≠ a.block := by
    rintro rfl
    rw [ha] at hty
    simp only [Option.some.injEq, Obj.cells.injEq] at hty
    exact he hty.2.1
  refine ⟨by simpa using h.lt, h.len, fun j hj => ?_, ⟨cs', fr', by rw [Below.heap_setCell _ _ _ _ hne]; exact hty⟩⟩
  rw [World.cell?_setCell_other _ _ _ _ (fun e => hne (by rw [e]))]
  exact h.cell j hj

theorem head_set (bu : Nat) (nx nx' : Option Addr) : (headCells bu nx).setIfInBounds 5 (.pointer nx') = headCells bu nx' := rfl
theorem node_set (n : KN) (fr rm : Bool) (nx nx' : Option Addr) : (nodeCells n fr rm nx).setIfInBounds 5 (.pointer nx') = nodeCells n fr rm nx' := rfl

theorem il_insert {w w' : World} {bi bu i : Nat} {L : List KN} {n : KN} {nx0 : Option Addr} (h : IL w bi bu L) (hi : i ≤ L.length) (hn : w.heap[n.g]? = some (.cells (nodeCells n true false nx0) 106 (0, 0))) (hkn : KB w n.kb n.l)
    (ho : ∀ k, k ≠ n.g → k ≠ blockAt bi L i → w'.heap[k]? = w.heap[k]?)
    (hp : ∀ cs e, w.heap[blockAt bi L i]? = some (.cells cs e (0, 0)) → w'.heap[blockAt bi L i]? = some (.cells (cs.setIfInBounds 5 (.pointer (some ⟨n.g, 0, none⟩))) e (0, 0)))
    (hg : w'.heap[n.g]? = some (.cells (nodeCells n false false (nxt (L.drop i))) 106 (0, 0))) (hk : ∀ kb l, KB w kb l → KB w' kb l) : IL w' bi bu (ins L i n) := by
  have nbi : bi ≠ n.g := by rintro rfl; have := h.head; rw [hn] at this; simp at this
  have nbu : bu ≠ n.g := by rintro rfl; have := h.up; rw [hn] at this; simp at this
  have ng : ∀ (j : Nat) (m : KN), L[j]? = some m → m.g ≠ n.g := fun j m hj e => by
    have := h.node j m hj
    rw [e, hn] at this
    simp [nodeCells] at this
  have nbib : ∀ (j : Nat) (m : KN), L[j]? = some m → m.g ≠ bi := fun j m hj e => by
    have h1 := h.node j m hj
    rw [e, h.head] at h1
    simp at h1
  have pu : blockAt bi L i ≠ bu := by
    cases i with
    | zero =>
      intro e
      have e : bi = bu := e
      have h1 := h.up
      rw [← e, h.head] at h1
      simp at h1
    | succ i =>
      obtain ⟨m, hm⟩ : ∃ m, L[i]? = some m := ⟨_, List.getElem?_eq_getElem hi⟩
      intro e
      have e : m.g = bu := by simpa [blockAt, hm] using e
      have h1 := h.up
      rw [← e, h.node i m hm] at h1
      simp at h1
  have at_succ : ∀ (j : Nat) (m : KN), L[j]? = some m → (m.g = blockAt bi L i ↔ j + 1 = i) := fun j m hm => by
    constructor
    · intro e
      cases i with
      | zero => exact absurd e (nbib j m hm)
      | succ i =>
        obtain ⟨m', hm'⟩ : ∃ m', L[i]? = some m' := ⟨_, List.getElem?_eq_getElem hi⟩
        have e : m.g = m'.g := by simpa [blockAt, hm'] using e
        rw [h.nd j i m m' hm hm' e]
    · rintro rfl
      simp [blockAt, hm]
  refine ⟨?_, ?_, fun j m hm => ?_, fun m hm => ?_, fun a b m m' hm hm' e => ?_⟩
  · by_cases e : i = 0
    · subst e
      have := hp _ _ h.head
      rw [head_set] at this
      have h2 : nxt (ins L 0 n) = some ⟨n.g, 0, none⟩ := rfl
      rw [h2]; exact this
    · rw [ho bi nbi (by
        intro e2
        obtain ⟨i', rfl⟩ : ∃ i', i = i' + 1 := ⟨i - 1, by omega⟩
        obtain ⟨m, hm⟩ : ∃ m, L[i']? = some m := ⟨_, List.getElem?_eq_getElem hi⟩
        have e2 : bi = m.g := by simpa [blockAt, hm] using e2
        exact nbib i' m hm e2.symm), h.head]
      have h2 : nxt (ins L i n) = nxt L := by
        have a1 := nxt_drop (ins L i n) 0
        have a2 := nxt_drop L 0
        rw [ins_get L i n hi, if_pos (by omega)] at a1
        simp only [List.drop_zero] at a1 a2
        rw [a1, a2]
      rw [h2]
  · rw [ho bu nbu (Ne.symm pu)]; exact h.up
  · rw [nxt_drop, ins_get L i n hi]
    rw [ins_get L i n hi] at hm
    by_cases h1 : j < i
    · rw [if_pos h1] at hm
      by_cases h2 : j + 1 = i
      · have e2 := (at_succ j m hm).2 h2
        have := hp _ _ (by rw [← e2]; exact h.node j m hm)
        rw [← e2, node_set] at this
        rw [if_neg (by omega), if_pos h2]
        exact this
      · rw [if_pos (by omega), ho m.g (ng j m hm) (fun e => h2 ((at_succ j m hm).1 e)), h.node j m hm, nxt_drop]
    · rw [if_neg h1] at hm
      by_cases h2 : j = i
      · rw [if_pos h2] at hm
        simp at hm; subst hm
        rw [if_neg (by omega), if_neg (by omega), hg, nxt_drop, h2, Nat.add_sub_cancel]
      · rw [if_neg h2] at hm
        rw [if_neg (by omega), if_neg (by omega), ho m.g (ng _ m hm) (fun e => by have := (at_succ _ m hm).1 e; omega), h.node _ m hm, nxt_drop]
        rw [show j - 1 + 1 = j + 1 - 1 from by omega]
  · have : m = n ∨ m ∈ L := by
      unfold ins at hm
      rcases List.mem_append.1 hm with hm | hm
      · exact Or.inr (List.mem_of_mem_take hm)
      · rcases List.mem_cons.1 hm with hm | hm
        · exact Or.inl hm
        · exact Or.inr (List.mem_of_mem_drop hm)
    rcases this with rfl | hm
    · exact hk _ _ hkn
    · exact hk _ _ (h.key m hm)
  · rw [ins_get L i n hi] at hm hm'
    by_cases a1 : a < i
    · rw [if_pos a1] at hm
      by_cases b1 : b < i
      · rw [if_pos b1] at hm'; exact h.nd a b m m' hm hm' e
      · rw [if_neg b1] at hm'
        by_cases b2 : b = i
        · rw [if_pos b2] at hm'; simp at hm'; subst hm'; exact absurd e (ng a m hm)
        · rw [if_neg b2] at hm'; have := h.nd _ _ m m' hm hm' e; omega
    · rw [if_neg a1] at hm
      by_cases a2 : a = i
      · rw [if_pos a2] at hm; simp at hm; subst hm
        by_cases b1 : b < i
        · rw [if_pos b1] at hm'; exact absurd e.symm (ng b m' hm')
        · rw [if_neg b1] at hm'
          by_cases b2 : b = i
          · omega
          · rw [if_neg b2] at hm'; exact absurd e.symm (ng _ m' hm')
      · rw [if_neg a2] at hm
        by_cases b1 : b < i
        · rw [if_pos b1] at hm'; have := h.nd _ _ m m' hm hm' e; omega
        · rw [if_neg b1] at hm'
          by_cases b2 : b = i
          · rw [if_pos b2] at hm'; simp at hm'; subst hm'; exact absurd e (ng _ m hm)
          · rw [if_neg b2] at hm'; have := h.nd _ _ m m' hm hm' e; omega

end Go.Proofs.Ybulkapdi.K
