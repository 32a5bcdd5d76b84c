import Derived.Test.YbulkapgaRows
import Derived.WalkKit
import Derived.WalkSpells
import Derived.WalkLawsBesides
import Derived.Handy
import Derived.Deep.QuietTactic
import Derived.BigQuiet
import Derived.Deep.RegionLaw
import Derived.Deep.AppendLies
import Derived.Deep.DeepCutAuto
import Derived.Deep.CutBlock
import Derived.Test.YbulkapgaNum
namespace Go.Proofs.Ybulkapga
open Go.RowKit

theorem hide {p : Prop} (h : p) : Hid p := h

theorem lt_of_block {w : World} {g : Nat} {o : Obj} (h : w.heap[g]? = some o) : g < w.heap.size := by
  rcases Nat.lt_or_ge g w.heap.size with h' | h'
  · exact h'
  · rw [Array.getElem?_eq_none h'] at h; cases h
theorem blk_cell {w : World} {g : Nat} {cs : Array Value} {e : TypeId} (h : w.heap[g]? = some (.cells cs e (0, 0))) (i : Nat) : w.cell? ⟨g, i, none⟩ = cs[i]? := by simp [World.cell?, h]
theorem blk_free {w : World} {g : Nat} {cs : Array Value} {e : TypeId} (h : w.heap[g]? = some (.cells cs e (0, 0))) (i : Nat) : w.frozen? ⟨g, i, none⟩ = false := by simp [World.frozen?, h]
theorem blk_set {w : World} {g : Nat} {cs : Array Value} {e : TypeId} (h : w.heap[g]? = some (.cells cs e (0, 0))) (i : Nat) (v : Value) : (w.setCell ⟨g, i, none⟩ v).heap[g]? = some (.cells (cs.setIfInBounds i v) e (0, 0)) := by
  simp [World.setCell, Array.getElem?_modify, h]

/-- The writer's memory, the bits' number X, their count len, m bytes put out. -/
structure WR (w0 w : World) (bw X len m : Nat) (v : Value) : Prop where
  blk : w.heap[bw]? = some (.cells #[v, .int .u64 ((X / 2 ^ (8 * m) : Nat) : Int), .int .u64 ((len - 8 * m : Nat) : Int)] 27 (0, 0))
  own : w.ownsRow w0.heap.size 5 1 v m (byts X m)
  hm : 8 * m ≤ len
  hX : X < 2 ^ len
  lo : w0.heap.size ≤ bw
  below : Below w0.heap.size w0 w

theorem WR.put {w0 w w2 : World} {bw X len m y k : Nat} {v : Value} (h : WR w0 w bw X len m v) (hy : y < 2 ^ k)
    (hb : w2.heap[bw]? = some (.cells #[v, .int .u64 ((X / 2 ^ (8 * m) + y * 2 ^ (len - 8 * m) : Nat) : Int), .int .u64 ((len - 8 * m + k : Nat) : Int)] 27 (0, 0)))
    (ho : w2.ownsRow w0.heap.size 5 1 v m (byts X m)) (hbe : Below w0.heap.size w0 w2) : WR w0 w2 bw (X + y * 2 ^ len) (len + k) m v := by
  have e1 : (X + y * 2 ^ len) / 2 ^ (8 * m) = X / 2 ^ (8 * m) + y * 2 ^ (len - 8 * m) := div_far X y len (8 * m) h.hm
  have e2 : len + k - 8 * m = len - 8 * m + k := by have := h.hm; omega
  exact ⟨by rw [e1, e2]; exact hb, by rw [byts_far X y len m h.hm]; exact ho, by have := h.hm; omega, lt_far X y len k h.hX hy, h.lo, hbe⟩

theorem own_ne {w : World} {base : Nat} {e e' : TypeId} {size : Nat} {v : Value} {n : Nat} {xs : List Value} {g : Nat} {cs : Array Value} {fr : Nat × Nat} (h : w.ownsRow base e size v n xs) (hg : w.heap[g]? = some (.cells cs e' fr)) (hne : e ≠ e') : v.ownBlock ≠ some g := by
  intro hv
  rcases h.2 with ⟨e1, _⟩ | ⟨g', cap, cur, e1, _, hh, _⟩
  · rw [e1] at hv; cases hv
  · rw [e1] at hv
    have : g' = g := by simpa [Value.ownBlock] using hv
    subst this
    rw [hg] at hh
    simp only [Option.some.injEq, Obj.cells.injEq] at hh
    exact hne hh.2.1.symm

theorem ownsRow_set {w : World} {base : Nat} {e : TypeId} {size : Nat} {v : Value} {n : Nat} {xs : List Value} (h : w.ownsRow base e size v n xs) {a : Addr} (ha : v.ownBlock ≠ some a.block) (u : Value) : (w.setCell a u).ownsRow base e size v n xs := by
  obtain ⟨h1, h2⟩ := h
  refine ⟨h1, ?_⟩
  rcases h2 with h2 | ⟨g, cap, cur, hv, hg, hh, r⟩
  · exact Or.inl h2
  · refine Or.inr ⟨g, cap, cur, hv, hg, ?_, r⟩
    rw [Below.heap_setCell _ _ _ _ (by rintro rfl; exact ha (by rw [hv]; rfl))]
    exact hh

theorem blk_grown_alloc {w w3 : World} {o : Obj} {row : Option Nat} {g : Nat} {O : Obj} (hb : w.heap[g]? = some O) (hg : (w.alloc o).drew.grownBy w3 row) (hne : row ≠ some g) : w3.heap[g]? = some O := by
  have hlt := lt_of_block hb
  have hs : (w.alloc o).drew.heap.size = w.heap.size + 1 := by simp
  rw [hg.block g (by omega) (Ne.symm hne)]
  have hbe : Below w.heap.size w (w.alloc o) := (Below.refl _ _).alloc (Nat.le_refl _) _
  exact (hbe.block g hlt).trans hb

/-- One byte goes out. -/
theorem WR.out {w0 w w3 : World} {bw X len m A N : Nat} {v : Value} (h : WR w0 w bw X len m v) {o : Obj} {gg cap : Nat} {BY : List Value} (hA : X / 2 ^ (8 * m) = A) (hN : len - 8 * m = N) (hby : byts X m = BY) (h8 : 8 ≤ N)
    (hg : (w.alloc o).drew.grownBy w3 v.ownBlock) (ho : w3.ownsRow w0.heap.size 5 1 (.slice (some ⟨gg, 0, none⟩) (m + 1) cap) (m + 1) (BY ++ [.int .u8 ((A % 256 : Nat) : Int)])) :
    WR w0 (((w3.setCell ⟨bw, 0, none⟩ (.slice (some ⟨gg, 0, none⟩) (m + 1) cap)).setCell ⟨bw, 1, none⟩ (.int .u64 ((A / 256 : Nat) : Int))).setCell ⟨bw, 2, none⟩ (.int .u64 ((N - 8 : Nat) : Int))) bw X len (m + 1) (.slice (some ⟨gg, 0, none⟩) (m + 1) cap) := by
  subst hA hN hby
  have hne := own_ne h.own h.blk (by decide)
  have q := blk_grown_alloc h.blk hg hne
  have hne3 := own_ne ho q (by decide)
  have e1 : X / 2 ^ (8 * (m + 1)) = X / 2 ^ (8 * m) / 256 := by
    rw [show (256 : Nat) = 2 ^ 8 from rfl, div_div_pow]; congr 1
  have e2 : len - 8 * (m + 1) = len - 8 * m - 8 := by omega
  refine ⟨?_, ?_, by have := h.hm; omega, h.hX, h.lo, ?_⟩
  · rw [e1, e2]
    exact blk_set (blk_set (blk_set q 0 _) 1 _) 2 _
  · rw [byts_succ]
    exact ownsRow_set (ownsRow_set (ownsRow_set ho hne3 _) hne3 _) hne3 _
  · have hb1 := h.below.alloc h.below.size o
    have hb2 : Below w0.heap.size w0 (w.alloc o).drew := ⟨hb1.os, hb1.tape, hb1.output, hb1.size, hb1.block⟩
    have hb3 := hb2.grown hg hb2.size (fun k hk => (h.own.lt k hk).1)
    exact ((hb3.setCell (p := ⟨bw, 0, none⟩) h.lo _).setCell (p := ⟨bw, 1, none⟩) h.lo _).setCell (p := ⟨bw, 2, none⟩) h.lo _

/-- The writer between two writes. -/
def WS (w0 w : World) (bw X len : Nat) : Prop := ∃ m v, WR w0 w bw X len m v ∧ len - 8 * m < 8

theorem Yba.info5 : (Yba.prog.info? 5).map (fun i => (i.zero, i.size, i.bytes)) = some (some (.int .u8 0), 1, 1) := by kernel_rfl

set_option maxRecDepth 100000 in
set_option maxHeartbeats 1000000 in
theorem write_any (bw X len m y k : Nat) (v : Value) (w0 w : World) (h : WR w0 w bw X len m v) (hn : len - 8 * m < 8) (hk : k ≤ 8) (hy : y < 2 ^ k) (hlen : len ≤ 1000) :
    Calls Yba.prog 6 #[.pointer (some ⟨bw, 0, none⟩), .int .u64 y, .int .u64 k] w fun e w' => e = .returned (.tuple #[]) ∧ WS w0 w' bw (X + y * 2 ^ len) (len + k) := by
  have c0 := blk_cell h.blk 0
  have c1 := blk_cell h.blk 1
  have c2 := blk_cell h.blk 2
  have f1 := blk_free h.blk 1
  have hacc : X / 2 ^ (8 * m) < 2 ^ (len - 8 * m) := by
    rw [Nat.div_lt_iff_lt_mul (Nat.two_pow_pos _), ← Nat.pow_add]
    have : len - 8 * m + 8 * m = len := by have := h.hm; omega
    rw [this]; exact h.hX
  generalize hA : X / 2 ^ (8 * m) = A at c1 hacc
  generalize hN : len - 8 * m = n at c2 hn hacc
  replace hA := hide hA
  replace hN := hide hN
  simp only [List.getElem?_toArray, List.getElem?_cons_zero, List.getElem?_cons_succ] at c0 c1 c2
  go_enter Yba.func6, Yba.ntmps6
  go_wp2_with fail
  go_region
  have hy256 : y < 256 := Nat.lt_of_lt_of_le hy (Nat.pow_le_pow_right (by decide) hk)
  have hp128 : 2 ^ n ≤ 128 := Nat.pow_le_pow_right (by decide) (show n ≤ 7 by omega)
  have hyn : y * 2 ^ n ≤ 256 * 128 := Nat.mul_le_mul (by omega) hp128
  have e1 : IntKind.u64.wrap ((y : Int) * 2 ^ n) = ((y * 2 ^ n : Nat) : Int) := by
    have e : ((y : Int) * 2 ^ n) = ((y * 2 ^ n : Nat) : Int) := by simp
    rw [e, IntKind.wrap_u64]
    generalize y * 2 ^ n = z at hyn
    omega
  have e2 : bits BinOp.or IntKind.u64 (A : Int) (IntKind.u64.wrap ((y : Int) * 2 ^ n)) = ((A + y * 2 ^ n : Nat) : Int) := by
    rw [e1, bits_or_u64 _ _ (by omega) (by omega), or_far _ _ _ hacc]
  simp only [e2]
  simp only [e1]
  clear e1 e2
  have b1 := blk_set h.blk 1 (.int .u64 ((A + y * 2 ^ n : Nat) : Int))
  have b2 := blk_set b1 2 (.int .u64 ((n + k : Nat) : Int))
  have hne := own_ne h.own h.blk (by decide)
  have hT := h.put (w2 := ((w.setCell ⟨bw, 1, none⟩ (.int .u64 ((A + y * 2 ^ n : Nat) : Int))).setCell ⟨bw, 2, none⟩ (.int .u64 ((n + k : Nat) : Int))).drew) hy
    (by rw [hA.out, hN.out]; exact b2) (by
      have := ownsRow_set (ownsRow_set h.own (a := ⟨bw, 1, none⟩) hne (.int .u64 ((A + y * 2 ^ n : Nat) : Int))) (a := ⟨bw, 2, none⟩) hne (.int .u64 ((n + k : Nat) : Int))
      exact this) (by
      have := (h.below.setCell (p := ⟨bw, 1, none⟩) h.lo (.int .u64 ((A + y * 2 ^ n : Nat) : Int))).setCell (p := ⟨bw, 2, none⟩) h.lo (.int .u64 ((n + k : Nat) : Int))
      exact ⟨this.os, this.tape, this.output, this.size, this.block⟩)
  have f2 := blk_free h.blk 2
  generalize A + y * 2 ^ n = A2 at hT b1 b2 ⊢
  generalize y * 2 ^ n = A4
  have hnk : Hid (len + k - 8 * m = n + k) := hide (by have := h.hm; have := hN.out; omega)
  go_wp2_with fail
  simp only [Int.natCast_add] at hT
  have hNN := hN.out
  have hmm := h.hm
  have hin := h.lo
  clear b1 b2 hA hN h c0 c1 c2 f1 f2 hne
  generalize World.drew _ = w2 at hT ⊢
  generalize hX2 : X + y * 2 ^ len = X2 at hT
  replace hX2 := hide hX2
  have hl2 : len + k ≤ 1008 := by omega
  have hb2 : len + k - 8 * m < 16 := by omega
  clear hnk hNN hmm hyn hp128 hy256 hacc hlen
  generalize hlen2 : len + k = len2 at hT hl2 hb2
  replace hlen2 := hide hlen2
  have d0 := blk_cell hT.blk 0
  have d1 := blk_cell hT.blk 1
  have d2 := blk_cell hT.blk 2
  generalize hA3 : X2 / 2 ^ (8 * m) = A3 at d1
  generalize hN3 : len2 - 8 * m = N3 at d2 hb2
  replace hA3 := hide hA3
  replace hN3 := hide hN3
  simp only [List.getElem?_toArray, List.getElem?_cons_zero, List.getElem?_cons_succ] at d0 d1 d2
  by_cases hlt : N3 < 8
  · have hlt' : ¬ (8 : Int) ≤ (N3 : Int) := by omega
    refine wp_loop_rounds 1 ?_
    rw [rounds_succ]
    go_wp2_with fail
    go_end0
    exact ⟨rfl, by rw [hX2.out, hlen2.out]; exact ⟨m, v, hT, by rw [hN3.out]; exact hlt⟩⟩
  · have hlt' : (8 : Int) ≤ (N3 : Int) := by omega
    obtain ⟨i0, hi0, hz0, hz1, hz2⟩ := info_parts Yba.info5
    have hown := hT.own
    have hne := own_ne hT.own hT.blk (by decide)
    have hsz := lt_of_block hT.blk
    have hlo := hT.below.size
    have hm1 := hT.hm
    have e8 : IntKind.u8.wrap (A3 : Int) = ((A3 % 256 : Nat) : Int) := by rw [IntKind.wrap_u8]; omega
    have g0 := blk_free hT.blk 0
    refine wp_loop_rounds 2 ?_
    rw [rounds_succ]
    go_wp2_with fail
    generalize hby : byts X2 m = BY at hown
    replace hby := hide hby
    go_region_law ((refine step_append_lies _ (by rfl) _ _ _ (by rfl) w0.heap.size 5 i0 _ 1 1 Yba.underlying25 hi0 hz0 hz1 hz2 rfl (by omega) v m BY (by rfl) ((hown.alloc _).drew) ⟨w2.heap.size, 0, none⟩ 1 1 [.int .u8 ((A3 % 256 : Nat) : Int)] (by rfl) (by rfl) (World.news_of_block (cs := #[.int .u8 ((A3 % 256 : Nat) : Int)]) (t := 5) (fr := (0, 0)) (heap_alloc_new w2 _)) (by simp [Value.oneCell']) (by omega) (by unfold maxLen; omega) (by omega) (by simp; omega) (w2.heap.size + 1) (by simp) ?_; intro gg cap2 w3 hown1 hgrow hat hlt2; have q := blk_grown_alloc hT.blk hgrow hne; have q0 : w3.cell? ⟨bw, 0, none⟩ = some v := blk_cell q 0; have q00 := blk_free q 0))
    all_goals
      have q1 : w3.cell? ⟨bw, 1, none⟩ = some (.int .u64 (A3 : Int)) := by have := blk_cell q 1; rw [hA3.out] at this; exact this
      have q2 : w3.cell? ⟨bw, 2, none⟩ = some (.int .u64 (N3 : Int)) := by have := blk_cell q 2; rw [hN3.out] at this; exact this
      have r1 := blk_free q 1
      have r2 := blk_free q 2
      have hF := hT.out hA3.out hN3.out hby.out (by omega) hgrow hown1
      clear hgrow hown1 hat q
      go_wp2_with fail
      have ea : ((A3 : Int) / 256) = ((A3 / 256 : Nat) : Int) := by omega
      have en : ((N3 : Int) - 8) = ((N3 - 8 : Nat) : Int) := by omega
      simp only [ea, en]
      clear ea en q0 q00 q1 q2 r1 r2 d0 d1 d2 hown g0
      generalize World.setCell _ ⟨bw, 2, none⟩ _ = w6 at hF ⊢
      have s2 := blk_cell hF.blk 2
      have hle : len2 - 8 * (m + 1) < 8 := by have := hN3.out; omega
      generalize hN5 : len2 - 8 * (m + 1) = N5 at s2 hle
      replace hN5 := hide hN5
      simp only [List.getElem?_toArray, List.getElem?_cons_zero, List.getElem?_cons_succ] at s2
      have hlt5 : ¬ (8 : Int) ≤ (N5 : Int) := by omega
      rw [rounds_succ]
      go_wp2_with fail
      go_end0
      exact ⟨rfl, by rw [hX2.out, hlen2.out]; exact ⟨m + 1, _, hF, by rw [hN5.out]; exact hle⟩⟩

end Go.Proofs.Ybulkapga
