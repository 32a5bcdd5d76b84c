import Derived.Test.YbulkapgaModelB
import Derived.Deep.RegionWith
namespace Go.Proofs.Ybulkapga
open Go.RowKit

theorem ownsRow_below {w w' : World} (hb : Below w.heap.size w w') {base : Nat} {e : TypeId} {size : Nat} {v : Value} {n : Nat} {xs : List Value} (h : w.ownsRow base e size v n xs) : w'.ownsRow base e size v n xs := by
  obtain ⟨h1, h2⟩ := h
  refine ⟨h1, ?_⟩
  rcases h2 with h2 | ⟨g, cap, cur, hv, hg, hh, r⟩
  · exact Or.inl h2
  · refine Or.inr ⟨g, cap, cur, hv, hg, ?_, r⟩
    rw [hb.block g (lt_of_block hh)]
    exact hh

theorem WR.later {w0 w w' : World} {bw X len m : Nat} {v : Value} (h : WR w0 w bw X len m v) (hb : Below w.heap.size w w') : WR w0 w' bw X len m v :=
  ⟨by rw [hb.block bw (lt_of_block h.blk)]; exact h.blk, ownsRow_below hb h.own, h.hm, h.hX, h.lo, h.below.trans (hb.mono h.below.size)⟩

theorem WR.drewN {w0 w : World} {bw X len m : Nat} {v : Value} (h : WR w0 w bw X len m v) (q : Nat) : WR w0 (w.drewN q) bw X len m v :=
  ⟨h.blk, h.own, h.hm, h.hX, h.lo, ⟨h.below.os, h.below.tape, h.below.output, h.below.size, h.below.block⟩⟩

theorem grp_len (f : Nat) : ∀ (s : Nat × Nat) (u : Nat), (grp f s u).2 ≤ s.2 + 8 * f := by
  induction f with
  | zero => intro s u; exact Nat.le_refl _
  | succ f ih =>
    intro s u
    unfold grp
    split
    · rw [put_len, put_len]; omega
    · have := ih (put (put s (u % 128) 7) 1 1) (u / 128)
      rw [put_len, put_len] at this; omega
theorem enc_len (s : Nat × Nat) (v : Nat) : (enc s v).2 ≤ s.2 + 88 := by
  unfold enc
  split
  · rw [put_len, put_len]; omega
  · have := grp_len 10 (put s 1 1) (v - 8)
    rw [put_len] at this; omega

theorem grouped_any (bw v : Nat) (s : Nat × Nat) (w0 w : World) (h : WS w0 w bw s.1 s.2) (hs : s.2 ≤ 7) (hv64 : v < 18446744073709551616) :
    Calls Yba.prog 7 #[.pointer (some ⟨bw, 0, none⟩), .int .u64 v] w fun e w' => e = .returned (.tuple #[]) ∧ WS w0 w' bw (enc s v).1 (enc s v).2 := by
  by_cases hv : v < 8
  · exact grouped_small bw v s w0 w h hs hv
  · exact grouped_big bw v s w0 w h hs hv hv64
theorem model_any (pv kk v : Nat) (w : World) (hk : kk ≤ 7) (hp : pv < 2 ^ kk) (hv64 : v < 18446744073709551616) :
    Calls Yba.prog 8 #[.int .u64 pv, .int .u64 kk, .int .u64 v] w fun e w' => ∃ u, e = .returned u ∧ MS w w' u (enc (pv, kk) v) := by
  by_cases hv : v < 8
  · exact model_small pv kk v w hk hp hv
  · exact model_big pv kk v w hk hp hv hv64

theorem mask_u64 (p n : Nat) (hp : p < 18446744073709551616) (hn : n < 64) : bits BinOp.and IntKind.u64 (p : Int) (IntKind.u64.wrap (IntKind.u64.wrap ((2 : Int) ^ n) - 1)) = ((p % 2 ^ n : Nat) : Int) := by
  have h1 : 2 ^ n < 18446744073709551616 := Nat.pow_lt_pow_right (by decide) hn
  have h0 : 0 < 2 ^ n := Nat.two_pow_pos n
  have e : ((2 : Int) ^ n) = ((2 ^ n : Nat) : Int) := by simp
  have e2 : IntKind.u64.wrap (IntKind.u64.wrap ((2 : Int) ^ n) - 1) = ((2 ^ n - 1 : Nat) : Int) := by
    rw [e, IntKind.wrap_u64, IntKind.wrap_u64]
    generalize 2 ^ n = z at h0 h1
    omega
  rw [e2, bits_and_u64 _ _ hp (by omega), Nat.and_two_pow_sub_one_eq_mod]

theorem bits_cell {w w0 : World} {u : Value} {s : Nat × Nat} (h : MS w0 w u s) (h0 : 0 < s.2) : ∃ g cap, u = .slice (some ⟨g, 0, none⟩) s.2 cap ∧ ∀ i, i < s.2 → w.cell? ⟨g, i, none⟩ = some (.int .u8 (bitAt s.1 i : Int)) := by
  obtain ⟨g, cap, rfl, _, _⟩ := h.own.form h0
  refine ⟨g, cap, rfl, fun i hi => ?_⟩
  have := h.own.cells (g := g) rfl i (.int .u8 (bitAt s.1 i : Int)) (by simp only [bitsOf, List.getElem?_map, List.getElem?_range hi, Option.map_some]; rfl)
  rwa [Addr.add_mid, Nat.zero_add] at this

theorem put_pos (s : Nat × Nat) (v k : Nat) (hk : 0 < k) : 0 < (put s v k).2 := by rw [put_len]; omega
theorem grp_pos (f : Nat) : ∀ (s : Nat × Nat) (u : Nat), 0 < s.2 → 0 < (grp f s u).2 := by
  induction f with
  | zero => intro s u h; exact h
  | succ f ih =>
    intro s u h
    unfold grp
    split
    · exact put_pos _ _ _ (by decide)
    · exact ih _ _ (put_pos _ _ _ (by decide))
theorem enc_pos (s : Nat × Nat) (v : Nat) : 0 < (enc s v).2 := by
  unfold enc
  split
  · exact put_pos _ _ _ (by decide)
  · exact grp_pos _ _ _ (put_pos _ _ _ (by decide))

set_option maxRecDepth 100000 in
set_option maxHeartbeats 1000000 in
theorem law_walk (v pre k : Nat) (hv : v < 18446744073709551616) (hpre : pre < 256) (hk : k < 256) (w : World) :
    Calls Yba.prog 3 #[.int .u64 v, .int .u8 pre, .int .u8 k] w fun e w' => e = .returned (.bool true) ∧ Below w.heap.size w w' := by
  go_enter Yba.func3, Yba.ntmps3
  go_wp2_with fail
  have e1 := mask_u64 pre (k % 8) (by omega) (by omega)
  have e2 : ((k : Int) % 8) = ((k % 8 : Nat) : Int) := by omega
  simp only [e1, e2]
  clear e1 e2
  have hkk : k % 8 ≤ 7 := by omega
  have hpv : pre % 2 ^ (k % 8) < 2 ^ (k % 8) := Nat.mod_lt _ (Nat.two_pow_pos _)
  generalize IntKind.u64.wrap (IntKind.u64.wrap ((2 : Int) ^ (k % 8)) - 1) = J1
  generalize IntKind.u64.wrap ((2 : Int) ^ (k % 8)) = J2
  generalize pre % 2 ^ (k % 8) = pv at hpv ⊢
  generalize k % 8 = kk at hkk hpv ⊢
  have hW0 : WS w (w.alloc (.cells #[.slice none 0 0, .int .u64 0, .int .u64 0] 27)) w.heap.size ((0, 0) : Nat × Nat).1 ((0, 0) : Nat × Nat).2 :=
    ⟨0, .slice none 0 0, ⟨by rw [heap_alloc_new]; rfl, World.ownsRow_nil _ _ _ _, by decide, by decide, Nat.le_refl _, (Below.refl _ _).alloc (Nat.le_refl _) _⟩, by decide⟩
  refine (ws_write w.heap.size (0, 0) pv kk w _ hW0 (by omega) hpv (by decide)).mono ?_
  rintro e w1 ⟨rfl, h1⟩
  have e0 : put (0, 0) pv kk = (pv, kk) := by simp [put]
  rw [e0] at h1
  clear e0 hW0
  go_wp2_with fail
  refine (grouped_any w.heap.size v (pv, kk) w w1 h1 hkk hv).mono ?_
  rintro e w2 ⟨rfl, h2⟩
  clear h1
  go_wp2_with fail
  refine (model_any pv kk v w2 hkk hpv hv).mono ?_
  rintro e w3 ⟨u, rfl, h3⟩
  obtain ⟨m, vv, hR, hn⟩ := h2
  replace hR := hR.later h3.below
  have hlen := enc_len (pv, kk) v
  have hpos := enc_pos (pv, kk) v
  generalize enc (pv, kk) v = E at h3 hR hn hlen hpos
  obtain ⟨X, len⟩ := E
  dsimp only at hR hn hlen hpos
  obtain ⟨g, cap, rfl, hbit⟩ := bits_cell h3 hpos
  dsimp only at hbit
  have hbe : Below w.heap.size w w3 := hR.below
  clear h3
  obtain ⟨p, cap1, rfl⟩ : ∃ p cap, vv = .slice p m cap := by
    rcases hR.own.2 with ⟨e1, e2⟩ | ⟨g, cap, cur, e1, _⟩
    · exact ⟨none, 0, by rw [e2]; exact e1⟩
    · exact ⟨_, cap, e1⟩
  have d0 := blk_cell hR.blk 0
  have d1 := blk_cell hR.blk 1
  have d2 := blk_cell hR.blk 2
  have hA : X / 2 ^ (8 * m) < 2 ^ (len - 8 * m) := by
    rw [Nat.div_lt_iff_lt_mul (Nat.two_pow_pos _), ← Nat.pow_add]
    have : len - 8 * m + 8 * m = len := by have := hR.hm; omega
    rw [this]; exact hR.hX
  have hsum : Hid (8 * m + (len - 8 * m) = len) := hide (by have := hR.hm; omega)
  have hn8 := hn
  have hm8 := hR.hm
  generalize X / 2 ^ (8 * m) = A at d1 hA
  generalize hNn : len - 8 * m = n at d2 hA hsum hn8
  simp only [List.getElem?_toArray, List.getElem?_cons_zero, List.getElem?_cons_succ] at d0 d1 d2
  have t1 : ¬ (8 : Int) ≤ (n : Int) := by omega
  have t2 : ((A : Int) / 2 ^ n) = 0 := by
    have e : ((A : Int) / 2 ^ n) = ((A / 2 ^ n : Nat) : Int) := by simp
    rw [e, Nat.div_eq_of_lt hA]; rfl
  have hR' := hide hR
  have hn' := hide hn
  clear hNn hA hR hn
  go_wp2_with fail
  go_quiet (fail)
  go_wp2_with fail
  have t3 : (8 * (m : Int) + (n : Int) != (len : Int)) = false := by have := hsum.out; simp; omega
  have t4 : ((8 * (m : Int) + (n : Int)) = (len : Int)) := by have := hsum.out; omega
  go_quiet (fail)
  go_wp2_with fail
  clear d0 d1 d2 t1 t2 t3 t4
  go_loopw [12] (fun x wr => ∃ i q : Nat, i ≤ len ∧ x = .int .u64 i ∧ wr = w3.drewN q) (fun x _ => len - (intOf x).toNat)
  case atStart => exact ⟨0, _, by omega, rfl, rfl⟩
  case round =>
    obtain ⟨i, q, hi, rfl, rfl⟩ := hrel
    by_cases hlt : i < len
    · have hlt' : (i : Int) < (len : Int) := by omega
      have hlt0 : (0 : Int) ≤ (i : Int) := by omega
      have hb := hbit i hlt
      have hRq := hR'.out.drewN q
      replace hb : (w3.drewN q).cell? ⟨g, i, none⟩ = some (.int .u8 (bitAt X i : Int)) := hb
      have hRd : WR w (w3.drewN q).drew w.heap.size X len m (.slice p m cap1) := ⟨hRq.blk, hRq.own, hRq.hm, hRq.hX, hRq.lo, ⟨hRq.below.os, hRq.below.tape, hRq.below.output, hRq.below.size, hRq.below.block⟩⟩
      generalize hbb : bitAt X i = bb at hb
      replace hbb := hide hbb
      generalize hwd : w3.drewN q = wd at hb hRd ⊢
      replace hwd := hide hwd
      clear hRq
      go_wp2_with fail
      go_region_with (first | (go_at_call 9; refine (bit_any w.heap.size X len m i _ w _ hRd hn'.out hlt (by omega)).mono ?_; rintro e w' ⟨rfl, rfl⟩; rw [hbb.out]))
      all_goals
        go_wp2_with fail
        go_roundw
        case rel => exact ⟨i + 1, q + 1, by omega, by go_num, by rw [← hwd.out]; simp [World.drewN, World.drew, Nat.add_assoc]⟩
        case measure => simp [intOf]; omega
    · have hlt' : ¬ (i : Int) < (len : Int) := by omega
      go_wp2_with fail
      go_ret
      exact ⟨rfl, ⟨hbe.os, hbe.tape, hbe.output, hbe.size, hbe.block⟩⟩

end Go.Proofs.Ybulkapga
