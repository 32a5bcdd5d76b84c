import Derived.Test.YbulkapdiKPrune
namespace Go.Proofs.Ybulkapdi.K
open Go.RowKit
attribute [local go_sem ↓] Go.wp_at_zero Go.wp_at_succ

def found (L : List KN) (l : List UInt8) : Option Addr :=
  match L[pos L l]? with
  | some n => if n.l = l then some ⟨n.g, 0, none⟩ else none
  | none => none

set_option maxHeartbeats 1000000 in
theorem find_any (bs bi bu kb kc : Nat) (l : List UInt8) (L : List KN) (w : World) (h : IL w bi bu L) (hk : KB w kb l) (hs : w.cell? ⟨bs, 0, none⟩ = some (.pointer (some ⟨bi, 0, none⟩))) :
    Calls Yba.prog 8 #[.pointer (some ⟨bs, 0, none⟩), .slice (some ⟨kb, 0, none⟩) l.length kc] w fun e w' => e = .returned (.pointer (found L l)) ∧ Below w.heap.size w w' := by
  go_enter Yba.func8, Yba.ntmps8
  go_wp2_with fail
  refine (prefix_any kb kc l w hk.len hk.lt hk.cell).mono ?_
  rintro e w1 ⟨rfl, hB1⟩
  go_wp2_with fail
  have hB2 : Below w.heap.size w (w1.alloc (.cells #[.slice (some ⟨kb, 0, none⟩) l.length kc, .int .u64 (pre l)] 116)) := hB1.alloc hB1.size _
  have q0 : (w1.alloc (.cells #[.slice (some ⟨kb, 0, none⟩) l.length kc, .int .u64 (pre l)] 116)).cell? ⟨w1.heap.size, 0, none⟩ = some (.slice (some ⟨kb, 0, none⟩) l.length kc) := by simp
  have q1 : (w1.alloc (.cells #[.slice (some ⟨kb, 0, none⟩) l.length kc, .int .u64 (pre l)] 116)).cell? ⟨w1.heap.size, 1, none⟩ = some (.int .u64 (pre l)) := by simp
  generalize w1.alloc (.cells #[.slice (some ⟨kb, 0, none⟩) l.length kc, .int .u64 (pre l)] 116) = w2 at hB2 q0 q1 ⊢
  generalize w1.heap.size = bk at q0 q1 ⊢
  have hI2 := h.below hB2
  have hk2 := hk.below hB2
  have s2 := cell_below hB2 hs
  go_region_held3 (fun w' => w'.cell? ⟨bs, 0, none⟩ = some (.pointer (some ⟨bi, 0, none⟩)) ∧ w'.cell? ⟨bk, 0, none⟩ = some (.slice (some ⟨kb, 0, none⟩) l.length kc) ∧ w'.cell? ⟨bk, 1, none⟩ = some (.int .u64 (pre l)))
    (first | go_keep | (rename_i hB3; exact ⟨cell_below hB3 s2, cell_below hB3 q0, cell_below hB3 q1⟩))
    (first | (go_at_call 14; refine (seek_nil bi bu kb kc l L _ (hI2.below ((Below.refl _ _).drew)) (hk2.below ((Below.refl _ _).drew))).mono ?_; rintro e w3 ⟨rfl, hB3⟩))
  have hB3' : Below w.heap.size w w3 := hB2.trans ⟨hB3.os, hB3.tape, hB3.output, hB3.size, fun k hk => hB3.block k (Nat.lt_of_lt_of_le hk hB2.size)⟩
  have hI3 := h.below hB3'
  have hk3 := hk.below hB3'
  clear hB3 s2 hk2 hI2 q0 q1 hB2 hB1
  rw [nxt_drop]
  cases hn : L[pos L l]? with
  | none =>
    have hf : found L l = none := by simp [found, hn]
    have HF := hide hf
    clear hf hn
    simp only [Option.map_none]
    go_wp2_with fail
    go_quiet (fail)
    go_wp2_with fail
    go_ret
    rw [unhide HF]
    exact ⟨rfl, hB3'.os, hB3'.tape, hB3'.output, hB3'.size, hB3'.block⟩
  | some n =>
    simp only [Option.map_some]
    have hnode := hI3.node _ n hn
    have hK := hI3.key n (List.mem_of_getElem? hn)
    have c6 : w3.cell? ⟨n.g, 6, none⟩ = some (.slice (some ⟨n.kb, 0, none⟩) n.l.length n.kc) := by rw [blk_cell hnode]; rfl
    have cv : ∀ (nq b c : Nat) (l : List UInt8), KB w3 b l → (convert 91 9 (.slice (some ⟨b, 0, none⟩) l.length c)).run Yba.prog (w3.drewN nq) = .ok (.string ⟨l.toArray⟩) (w3.drewN nq) := fun nq b c l h =>
      run_convert_bytes_back (w3.drewN nq) 91 9 5 ⟨b, 0, none⟩ c l Yba.underlying91 Yba.underlying5 Yba.underlying9 (fun j hj => by
        rw [show (⟨b, 0, none⟩ : Addr).add j = ⟨b, j, none⟩ from by unfold Addr.add; split <;> simp_all]; exact h.cell j hj)
    have k1 := fun nq => cv nq n.kb n.kc n.l hK
    have k2 := fun nq => cv nq kb kc l hk3
    clear cv hnode hK
    by_cases e : n.l = l
    · have hf : found L l = some ⟨n.g, 0, none⟩ := by simp [found, hn, e]
      have hb : (n.l == l) = true := by simp [e]
      have HF := hide hf
      clear hf hn e
      go_wp2_with fail
      go_quiet (fail)
      go_wp2_with fail
      go_ret
      rw [unhide HF]
      exact ⟨rfl, hB3'.os, hB3'.tape, hB3'.output, hB3'.size, hB3'.block⟩
    · have hf : found L l = none := by simp [found, hn, e]
      have hb : (n.l == l) = false := by simp [e]
      have HF := hide hf
      clear hf hn e
      go_wp2_with fail
      go_quiet (fail)
      go_wp2_with fail
      go_ret
      rw [unhide HF]
      exact ⟨rfl, hB3'.os, hB3'.tape, hB3'.output, hB3'.size, hB3'.block⟩

set_option maxRecDepth 100000 in
set_option maxHeartbeats 1000000 in
theorem pruneKey_any (B bs bi bu i : Nat) (L : List KN) (n : KN) (last : Int) (pa ra : Option Addr) (pn pc rn rc : Nat) (w : World) (h : IL w bi bu L) (hn : L[i]? = some n) (hpos : pos L n.l = i) (hlo : Lo B bi L) (hBw : B ≤ w.heap.size)
    (hs : w.cell? ⟨bs, 0, none⟩ = some (.pointer (some ⟨bi, 0, none⟩))) :
    Calls Yba.prog 11 #[.pointer (some ⟨bs, 0, none⟩), .pointer (some ⟨n.g, 0, none⟩), .agg #[.int .u64 last, .slice pa pn pc], .slice ra rn rc] w fun e w' => e = .returned (.tuple #[.slice ra rn rc, .bool false]) ∧ IL w' bi bu (L.eraseIdx i) ∧ w'.heap[n.g]? = some (.cells (nodeCells n false true (nxt (L.drop (i + 1)))) 106 (0, 0)) ∧ KFr w w' ∧ Below B w w' ∧ KB w' n.kb n.l := by
  have hB1 : Below w.heap.size w (w.alloc (.cells #[.int .u64 last, .slice pa pn pc] 54)) := (Below.refl _ _).alloc (Nat.le_refl _) _
  have q0 : (w.alloc (.cells #[.int .u64 last, .slice pa pn pc] 54)).cell? ⟨w.heap.size, 0, none⟩ = some (.int .u64 last) := by simp
  have q1 : (w.alloc (.cells #[.int .u64 last, .slice pa pn pc] 54)).cell? ⟨w.heap.size, 1, none⟩ = some (.slice pa pn pc) := by simp
  have hnd := h.node i n hn
  go_enter Yba.func11, Yba.ntmps11
  go_wp2_with fail
  generalize w.alloc (.cells #[.int .u64 last, .slice pa pn pc] 54) = w1 at hB1 q0 q1 ⊢
  have c0 : w1.cell? ⟨n.g, 0, none⟩ = some (.pointer none) := by rw [blk_cell (blk_below hB1 hnd)]; rfl
  go_region_held3 (fun w' => w'.cell? ⟨w.heap.size, 0, none⟩ = some (.int .u64 last) ∧ w'.cell? ⟨w.heap.size, 1, none⟩ = some (.slice pa pn pc))
    (first | go_keep | (rename_i hB3; exact ⟨cell_below hB3 q0, cell_below hB3 q1⟩))
    (first | (go_at_call 17; refine (prune_nil n.g last pa ra pn pc rn rc _ (by exact c0)).mono ?_; rintro e w3 ⟨rfl, hB3⟩))
  have hB3' : Below w.heap.size w w3 := hB1.trans ⟨hB3.os, hB3.tape, hB3.output, hB3.size, fun k hk => hB3.block k (Nat.lt_of_lt_of_le hk hB1.size)⟩
  have hI3 := h.below hB3'
  have hn3 := blk_below hB3' hnd
  have d0 : w3.cell? ⟨n.g, 0, none⟩ = some (.pointer none) := by rw [blk_cell hn3]; rfl
  have d2 : w3.cell? ⟨n.g, 2, none⟩ = some (.bool false) := by rw [blk_cell hn3]; rfl
  have s3 := cell_below hB3' hs
  clear hB3 q0 q1 c0
  go_wp2_with (first | (go_at_call 18; refine (pruned_zero _ _ _).mono ?_; rintro e w' ⟨rfl, rfl⟩) | (go_at_call 19; refine (vload_nil _ _ _ d0).mono ?_; rintro e w' ⟨rfl, rfl⟩) | (go_at_call 20; refine (remove_any B bi bu i L n _ hI3 hn hpos hlo (Nat.le_trans hBw hB3'.size)).mono ?_; rintro e w' ⟨rfl, r1, r2, r3, r4, r5⟩))
  go_ret2
  exact ⟨rfl, r1, r2, (KFr.of_below hB3').trans r3, (hB3'.mono hBw).trans r4, r5⟩
end Go.Proofs.Ybulkapdi.K
