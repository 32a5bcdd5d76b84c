import Derived.Test.YbulkapdwRows
import Derived.WalkKit
import Derived.WalkSpells
import Derived.WalkLawsBesides
import Derived.Handy
import Derived.Deep.QuietTactic
import Derived.BigQuiet
import Derived.Deep.MidRow
import Derived.Deep.RegionHeld3
import Derived.Deep.DrawnRows
import Derived.Deep.AppendLies
namespace Go.Proofs.Ybulkapdw
open Go.RowKit

theorem hide {p : Prop} (h : p) : Hid p := h
theorem unhide {p : Prop} (h : Hid p) : p := h

theorem lt_of_block {w : World} {g : Nat} {o : Obj} (h : w.heap[g]? = some o) : g < w.heap.size := by
  rcases Nat.lt_or_ge g w.heap.size with h' | h'
  · exact h'
  · rw [Array.getElem?_eq_none h'] at h; cases h
theorem cell_below {w w' : World} (hb : Below w.heap.size w w') {a : Addr} {v : Value} (h : w.cell? a = some v) : w'.cell? a = some v :=
  (hb.cell (World.block_lt_of_cell? _ _ h)).trans h
theorem ownsRow_below {w w' : World} (hb : Below w.heap.size w w') {base : Nat} {e : TypeId} {size : Nat} {v : Value} {n : Nat} {xs : List Value} (h : w.ownsRow base e size v n xs) : w'.ownsRow base e size v n xs := by
  obtain ⟨h1, h2⟩ := h
  refine ⟨h1, ?_⟩
  rcases h2 with h2 | ⟨g, cap, cur, hv, hg, hh, r⟩
  · exact Or.inl h2
  · refine Or.inr ⟨g, cap, cur, hv, hg, ?_, r⟩
    rw [hb.block g (lt_of_block hh)]
    exact hh
theorem ownsRow_set {w : World} {base : Nat} {e : TypeId} {size : Nat} {v : Value} {n : Nat} {xs : List Value} (h : w.ownsRow base e size v n xs) {a : Addr} (ha : v.ownBlock ≠ some a.block) (u : Value) : (w.setCell a u).ownsRow base e size v n xs := by
  obtain ⟨h1, h2⟩ := h
  refine ⟨h1, ?_⟩
  rcases h2 with h2 | ⟨g, cap, cur, hv, hg, hh, r⟩
  · exact Or.inl h2
  · refine Or.inr ⟨g, cap, cur, hv, hg, ?_, r⟩
    rw [Below.heap_setCell _ _ _ _ (by rintro rfl; exact ha (by rw [hv]; rfl))]
    exact hh
theorem cell_grown {w w' : World} {row : Option Nat} (hg : w.grownBy w' row) {a : Addr} {v : Value} (h : w.cell? a = some v) (hne : ∀ g, row = some g → g ≠ a.block) : w'.cell? a = some v := by
  rw [hg.cell_far a (World.block_lt_of_cell? _ _ h) (fun e => hne _ e.symm rfl)]; exact h

/-- A contact as the law lays it: zeros, and whether it is stale. -/
def ent (s : Bool) : List Value := [.int .u8 0, .int .u8 0, .int .u8 0, .int .u8 0, .int .u8 0, .int .u8 0, .int .u8 0, .int .u8 0, .int .u8 0, .int .u8 0,
  .int .u8 0, .int .u8 0, .int .u8 0, .int .u8 0, .int .u8 0, .int .u8 0, .int .u8 0, .int .u8 0, .int .u8 0, .int .u8 0, .int .u64 0, .int .u64 0, .pointer none, .int .u16 0, .bool s]
def ents (l : List Bool) : List Value := l.flatMap ent
theorem ent_len (s : Bool) : (ent s).length = 25 := rfl
theorem ents_len (l : List Bool) : (ents l).length = l.length * 25 := by
  induction l with
  | nil => rfl
  | cons a l ih => simp [ents, ent_len] at ih ⊢; omega
theorem ents_get (l : List Bool) (k j : Nat) (hk : k < l.length) (hj : j < 25) : (ents l)[k * 25 + j]? = (ent l[k])[j]? := by
  induction l generalizing k with
  | nil => simp at hk
  | cons a l ih =>
    have e : ents (a :: l) = ent a ++ ents l := rfl
    cases k with
    | zero => rw [e, List.getElem?_append_left (by rw [ent_len]; omega)]; simp
    | succ k =>
      rw [e, List.getElem?_append_right (by rw [ent_len]; omega), ent_len]
      have : (k + 1) * 25 + j - 25 = k * 25 + j := by omega
      rw [this, ih k (by simpa using hk)]
      simp

theorem Yba.info58 : (Yba.prog.info? 58).map (fun i => (i.zero, i.size, i.bytes)) = some (some (.agg (ent false).toArray), 25, 64) := by kernel_rfl

def nlive (l : List Bool) : Nat := l.countP (fun s => !s)

theorem nlive_step (l : List Bool) (k : Nat) (hk : k < l.length) : nlive (l.take (k + 1)) = nlive (l.take k) + (if l[k] then 0 else 1) := by
  unfold nlive
  rw [List.take_succ_eq_append_getElem hk, List.countP_append]
  cases l[k] <;> simp
theorem nlive_le (l : List Bool) : nlive l ≤ l.length := List.countP_le_length

/-- A bucket's cells in memory, from the row. -/
theorem row_range {w : World} {base g cap : Nat} {l : List Bool} (h : w.ownsRow base 58 25 (.slice (some ⟨g, 0, none⟩) l.length cap) l.length (ents l)) (k : Nat) (hk : k < l.length) : w.rangeAt g (k * 25) (ent l[k]) := by
  intro j v hv
  have hj : j < 25 := by
    have := (List.getElem?_eq_some_iff.1 hv).1
    rw [ent_len] at this; exact this
  have := h.cells (g := g) rfl (k * 25 + j) v (by rw [ents_get l k j hk hj]; exact hv)
  rwa [Addr.add_mid, Nat.zero_add] at this

theorem below_setCells {B : Nat} : ∀ (vs : List Value) (o : Nat) (w w' : World), Below B w w' → Below B w (w'.setCells B o vs)
  | [], _, _, _, h => h
  | v :: r, o, w, w', h => by
    rw [World.setCells]
    exact below_setCells r (o + 1) w _ (h.setCell (p := ⟨B, o, none⟩) (Nat.le_refl _) _)

/-- A contact goes into a variable of its own. -/
theorem store_then {ops : Array Oper} {rest : List Oper} {op : Oper} {a : Act} {w : World} {Q : Exit → Act → World → Prop} (hgd : op.guard = none) (x y : Operand) (ho : op.op = .store 58 x y)
    (B : Nat) (s : Bool) (cs : List Value) (hcs : cs = ent s) (hx : a.eval x = .pointer (some ⟨B, 0, none⟩)) (hy : a.eval y = .agg cs.toArray) (cs0 : Array Value) (hb : w.heap[B]? = some (.cells cs0 58 (0, 0))) (h0 : cs0.size = 25)
    (h : ∀ w', w'.cell? ⟨B, 24, none⟩ = some (.bool s) → Below B w w' → wpList Yba.prog ops Q rest (a.put op.dst undef) w') : wpList Yba.prog ops Q (op :: rest) a w := by
  have th : w.there B 0 25 := fun j hj => ⟨by simp [World.cell?, hb, h0, hj], by simp [World.frozen?, hb]⟩
  subst hcs
  refine wpList_store_mid hgd 58 x y ho B 0 (ent s).toArray hx hy (by simpa [ent_len] using th) (by kernel_rfl) (by simp [ent, Value.oneCell']) (h _ ?_ (below_setCells _ 0 w w (Below.refl _ _)))
  have := World.rangeAt_setCells_same w B 0 (ent s) (by rw [ent_len]; exact th) 24 (.bool s) rfl
  simpa using this

set_option maxRecDepth 100000 in
set_option maxHeartbeats 400000 in
theorem live_any (base : Nat) (v : Value) (l : List Bool) (w : World) (h : w.ownsRow base 58 25 v l.length (ents l)) (hl : l.length ≤ 1024) :
    Calls Yba.prog 7 #[v] w fun e w' => e = .returned (.int .i64 (nlive l)) ∧ Below w.heap.size w w' := by
  obtain ⟨p, cap, hv, hp⟩ : ∃ p cap, v = .slice p l.length cap ∧ (0 < l.length → ∃ g, p = some ⟨g, 0, none⟩) := by
    rcases h.2 with ⟨e1, e2⟩ | ⟨g, cap, cur, e1, _⟩
    · exact ⟨none, 0, by rw [e2]; exact e1, by omega⟩
    · exact ⟨_, cap, e1, fun _ => ⟨g, rfl⟩⟩
  subst hv
  go_enter Yba.func7, Yba.ntmps7
  go_wp2_with fail
  go_loopw [3, 8] (fun n i wr => ∃ k : Nat, k ≤ l.length ∧ i = .int .i64 k ∧ n = .int .i64 (nlive (l.take k)) ∧ Below w.heap.size w wr) (fun _ i _ => l.length - (intOf i).toNat)
  case atStart =>
    exact ⟨0, by omega, rfl, by simp [nlive], Below.refl _ _⟩
  case round =>
    obtain ⟨k, hk, rfl, rfl, hB⟩ := hrel
    by_cases hlt : k < l.length
    · obtain ⟨g, rfl⟩ := hp (by omega)
      have hr := row_range (ownsRow_below hB h) k hlt
      have hi : Hid ((Yba.prog.info? 58).map (·.size) = some (ent l[k]).length) := hide (by kernel_rfl)
      generalize hs : l[k] = s at hr hi
      have HS := hide hs
      clear hs
      generalize hcs : ent s = cs at hr hi
      replace hcs := hide hcs.symm
      go_wp2_with (first
        | (refine wpList_load_mid (by rfl) 58 (.tmp 10) (by rfl) g (k * 25) (by rfl) cs _ hr Yba.underlying58 rfl hi.out ?_)
        | (refine store_then (by rfl) (.tmp 5) (.tmp 11) (by rfl) wr.heap.size s cs hcs.out (by rfl) (by rfl) _ (heap_alloc_new _ _) (by rfl) ?_))
      intro w2 hc2 hb2
      have hB2 : Below w.heap.size w w2 := (hB.alloc hB.size _).trans (hb2.mono hB.size)
      have hst := nlive_step l k hlt
      have hle := nlive_le (l.take k)
      have hle2 : (l.take k).length ≤ k := by simp; omega
      rw [HS.out] at hst
      clear hb2 hr hB h hcs
      generalize hN : nlive (l.take k) = N at hst hle ⊢
      have HST := hide hst
      clear hst
      cases s
      · go_wp2_with fail
        go_roundw
        case rel => exact ⟨k + 1, by omega, by go_num, by rw [HST.out]; go_num, hB2⟩
        case measure => simp [intOf]; omega
      · go_wp2_with fail
        go_roundw
        case rel => exact ⟨k + 1, by omega, by go_num, by rw [HST.out]; simp, hB2⟩
        case measure => simp [intOf]; omega
    · go_wp2_with fail
      go_ret
      have : k = l.length := by omega
      subst this
      exact ⟨by simp, hB⟩

end Go.Proofs.Ybulkapdw
