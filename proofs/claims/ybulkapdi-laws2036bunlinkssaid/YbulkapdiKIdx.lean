import Derived.Test.YbulkapdiKCmp
namespace Go.Proofs.Ybulkapdi.K
open Go.RowKit

/-- A node of the list: its block, its key, where the key's bytes lie. -/
structure KN where
  g : Nat
  l : List UInt8
  kb : Nat
  kc : Nat

def nxt : List KN → Option Addr
  | [] => none
  | n :: _ => some ⟨n.g, 0, none⟩

def nodeCells (n : KN) (fr rm : Bool) (nx : Option Addr) : Array Value := #[.pointer none, .bool fr, .bool rm, .bool false, .int .u64 (pre n.l), .pointer nx, .slice (some ⟨n.kb, 0, none⟩) n.l.length n.kc, .slice none 0 0]
def headCells (bu : Nat) (nx : Option Addr) : Array Value := #[.pointer none, .bool false, .bool false, .bool false, .int .u64 0, .pointer nx, .slice none 0 0, .slice (some ⟨bu, 0, none⟩) 19 19]

/-- A key's bytes in memory. -/
structure KB (w : World) (kb : Nat) (l : List UInt8) : Prop where
  lt : kb < w.heap.size
  len : l.length ≤ 9223372036854775807
  cell : ∀ j (hj : j < l.length), w.cell? ⟨kb, j, none⟩ = some (.int .u8 (l[j].toNat : Int))
  ty : ∃ cs fr, w.heap[kb]? = some (.cells cs 5 fr)

theorem KB.below {w w' : World} {kb : Nat} {l : List UInt8} (h : KB w kb l) (hb : Below w.heap.size w w') : KB w' kb l :=
  ⟨Nat.lt_of_lt_of_le h.lt hb.size, h.len, fun j hj => cell_below hb (h.cell j hj), by
    obtain ⟨cs, fr, e⟩ := h.ty
    exact ⟨cs, fr, by rw [hb.block kb h.lt]; exact e⟩⟩

/-- The index in memory: a list, in the order of L. -/
structure IL (w : World) (bi bu : Nat) (L : List KN) : Prop where
  head : w.heap[bi]? = some (.cells (headCells bu (nxt L)) 111 (0, 0))
  up : w.heap[bu]? = some (.cells (Array.replicate 19 (.pointer none)) 103 (0, 0))
  node : ∀ (i : Nat) (n : KN), L[i]? = some n → w.heap[n.g]? = some (.cells (nodeCells n false false (nxt (L.drop (i + 1)))) 106 (0, 0))
  key : ∀ n ∈ L, KB w n.kb n.l
  nd : ∀ (i j : Nat) (n n' : KN), L[i]? = some n → L[j]? = some n' → n.g = n'.g → i = j

theorem blk_cell {w : World} {g : Nat} {cs : Array Value} {e : TypeId} (h : w.heap[g]? = some (.cells cs e (0, 0))) (i : Nat) : w.cell? ⟨g, i, none⟩ = cs[i]? := by simp [World.cell?, h]
theorem blk_free {w : World} {g : Nat} {cs : Array Value} {e : TypeId} (h : w.heap[g]? = some (.cells cs e (0, 0))) (i : Nat) : w.frozen? ⟨g, i, none⟩ = false := by simp [World.frozen?, h]
theorem blk_shape {w : World} {g : Nat} {cs : Array Value} {e : TypeId} (h : w.heap[g]? = some (.cells cs e (0, 0))) : w.shape? g = some (e, cs.size) := by simp [World.shape?, h]
theorem blk_set {w : World} {g : Nat} {cs : Array Value} {e : TypeId} (h : w.heap[g]? = some (.cells cs e (0, 0))) (i : Nat) (v : Value) : (w.setCell ⟨g, i, none⟩ v).heap[g]? = some (.cells (cs.setIfInBounds i v) e (0, 0)) := by
  simp [World.setCell, Array.getElem?_modify, h]
theorem blk_below {w w' : World} (hb : Below w.heap.size w w') {g : Nat} {o : Obj} (h : w.heap[g]? = some o) : w'.heap[g]? = some o := by
  rw [hb.block g (lt_of_block h)]; exact h

theorem IL.below {w w' : World} {bi bu : Nat} {L : List KN} (h : IL w bi bu L) (hb : Below w.heap.size w w') : IL w' bi bu L :=
  ⟨blk_below hb h.head, blk_below hb h.up, fun i n hn => blk_below hb (h.node i n hn), fun n hn => (h.key n hn).below hb, h.nd⟩

/-- Where the i-th link lies: in the head, or in the node before. -/
def blockAt (bi : Nat) (L : List KN) : Nat → Nat
  | 0 => bi
  | i + 1 => ((L[i]?).map KN.g).getD 0

theorem IL.next {w : World} {bi bu : Nat} {L : List KN} (h : IL w bi bu L) (i : Nat) (hi : i ≤ L.length) : w.cell? ⟨blockAt bi L i, 5, none⟩ = some (.pointer (nxt (L.drop i))) := by
  cases i with
  | zero => rw [show blockAt bi L 0 = bi from rfl, blk_cell h.head]; rfl
  | succ i =>
    obtain ⟨n, hn⟩ : ∃ n, L[i]? = some n := ⟨_, List.getElem?_eq_getElem hi⟩
    have e : blockAt bi L (i + 1) = n.g := by simp [blockAt, hn]
    rw [e, blk_cell (h.node i n hn)]; rfl

theorem IL.np {w : World} {bi bu : Nat} {L : List KN} (h : IL w bi bu L) (i : Nat) : NP w (nxt (L.drop i)) := by
  cases hd : L.drop i with
  | nil => exact Or.inl rfl
  | cons n r =>
    have hn : L[i]? = some n := by
      have := congrArg List.head? hd
      simpa [List.head?_drop] using this
    exact Or.inr ⟨n.g, rfl, blk_shape (h.node i n hn)⟩

def pos (L : List KN) (l : List UInt8) : Nat := (L.takeWhile fun n => ltK n.l l).length

theorem pos_of {L : List KN} {l : List UInt8} {i : Nat} (hi : i ≤ L.length) (h1 : ∀ (m : Nat) (n : KN), m < i → L[m]? = some n → ltK n.l l = true) (h2 : i = L.length ∨ ∃ n, L[i]? = some n ∧ ltK n.l l = false) : pos L l = i := by
  unfold pos
  induction L generalizing i with
  | nil => simp at hi; simp [hi]
  | cons a L ih =>
    cases i with
    | zero =>
      rcases h2 with h2 | ⟨n, hn, hf⟩
      · simp at h2
      · simp at hn; subst hn; simp [hf]
    | succ i =>
      have ha := h1 0 a (by omega) rfl
      rw [List.takeWhile_cons_of_pos (p := fun n : KN => ltK n.l l) ha, List.length_cons]
      rw [ih (i := i) (by simpa using hi) (fun m n hm hn => h1 (m + 1) n (by omega) (by simpa using hn)) (by
        rcases h2 with h2 | ⟨n, hn, hf⟩
        · left; simpa using h2
        · right; exact ⟨n, by simpa using hn, hf⟩)]

theorem nxt_drop_some {L : List KN} {i : Nat} {n : KN} (hn : L[i]? = some n) : nxt (L.drop i) = some ⟨n.g, 0, none⟩ := by
  rw [List.drop_eq_getElem_cons (List.getElem?_eq_some_iff.1 hn).1]
  obtain ⟨h, e⟩ := List.getElem?_eq_some_iff.1 hn
  rw [e]; rfl

end Go.Proofs.Ybulkapdi.K
