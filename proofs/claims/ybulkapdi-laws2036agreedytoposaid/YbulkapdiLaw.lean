import Derived.Test.YbulkapdiLawParts
import Derived.Deep.DeepCutAuto
import Derived.Deep.CutBlock
namespace Go.Proofs.Ybulkapdi
open Go.RowKit

set_option maxRecDepth 100000 in
set_option maxHeartbeats 2000000 in
theorem law_long (n : Int) (ao : Option Addr) (len cap : Nat) (w : World) (hl : 1024 < len) :
    Calls Yba.prog 3 #[.int .u8 n, .slice ao len cap] w fun e w' => e = .returned (.bool true) ∧ Below w.heap.size w w' := by
  go_enter Yba.func3, Yba.ntmps3
  go_wp2_with fail
  go_ret
  exact ⟨rfl, Below.refl _ _⟩

set_option maxRecDepth 100000 in
set_option maxHeartbeats 2000000 in
theorem law_walk (m : Nat) (hm : m ≤ 255) (ao : Option Addr) (cap : Nat) (ps : List (Nat × Nat)) (w : World) (hl : ps.length ≤ 1024) (hps : ∀ e ∈ ps, e.1 < 65536 ∧ e.2 < 65536)
    (hcell : ps = [] ∨ ∃ b off, ao = some ⟨b, off, none⟩ ∧ ∀ (i : Nat) (e : Nat × Nat), ps[i]? = some e → w.cell? ⟨b, off + i * 2, none⟩ = some (.int .u16 (e.1 : Int)) ∧ w.cell? ⟨b, off + i * 2 + 1, none⟩ = some (.int .u16 (e.2 : Int))) :
    Calls Yba.prog 3 #[.int .u8 m, .slice ao ps.length cap] w fun e w' => e = .returned (.bool true) ∧ Below w.heap.size w w' := by
  have mk1 := fun (w : World) => make_run (P := Yba.prog) 23 27 (.slice none 0 0) 24 Yba.underlying23 Yba.info27 rfl m (by omega) (by omega) w
  have hl1 : ¬ (1024 : Int) < (ps.length : Int) := by omega
  go_enter Yba.func3, Yba.ntmps3
  go_upto_if 36 with fail
  clear mk1
  go_cut [] (fun wx => ∃ pv, PL w wx w.heap.size m (predsTo m ps) pv)
  case first =>
    have hP0 : PL w (w.alloc (.cells (Array.replicate m (.slice none 0 0)) 27)) w.heap.size m (predsTo m []) (fun _ => .slice none 0 0) :=
      ⟨fun t ht => by simp [ht], fun t ht => by simp, fun t ht => World.ownsRow_nil _ _ _ _, (fun s t hs ht hst g hg => by simp [Value.ownBlock] at hg), fun t ht => by simp [Value.ownBlock], (Below.refl _ _).alloc (Nat.le_refl _) _, Nat.le_refl _, by simp⟩
    by_cases hm0 : 0 < m
    · go_wp2_with fail
      generalize w.alloc (.cells (Array.replicate m (.slice none 0 0)) 27) = w2 at hP0 ⊢
      go_loopw [39] (fun i wr => ∃ (k : Nat) (pv : Nat → Value), k ≤ ps.length ∧ i = .int .i64 k ∧ PL w wr w.heap.size m (predsTo m (ps.take k)) pv) (fun i _ => ps.length - (intOf i).toNat)
      case atStart => exact ⟨0, _, by omega, rfl, hP0⟩
      case round =>
        clear hP0
        obtain ⟨k, pv, hk, rfl, hP⟩ := hrel
        by_cases hlt : k < ps.length
        · obtain ⟨e, he⟩ : ∃ e, ps[k]? = some e := ⟨_, List.getElem?_eq_getElem hlt⟩
          have hne : ps ≠ [] := fun e0 => by rw [e0] at hlt; simp at hlt
          obtain ⟨b, off, rfl, hcs⟩ := hcell.resolve_left hne
          obtain ⟨hc0, hc1⟩ := hcs k e he
          obtain ⟨a, c⟩ := e
          have c0 := (hP.below.cell (World.block_lt_of_cell? _ _ hc0)).trans hc0
          have c1 := (hP.below.cell (World.block_lt_of_cell? _ _ hc1)).trans hc1
          obtain ⟨ha, hc⟩ := hps (a, c) (List.mem_of_getElem? he)
          have lb := World.block_lt_of_cell? _ _ c0
          have HE := hide he
          have HC := hide hcell
          have HPS := hide hps
          clear he hcs hc0 hc1 hps hcell
          obtain ⟨p, hp⟩ : ∃ p, p = a % m := ⟨_, rfl⟩
          obtain ⟨q, hq⟩ : ∃ q, q = c % m := ⟨_, rfl⟩
          have ea : ((a : Int) % (m : Int)) = (p : Int) := by rw [hp]; simp
          have ec : ((c : Int) % (m : Int)) = (q : Int) := by rw [hq]; simp
          have hpm : p < m := by rw [hp]; exact Nat.mod_lt _ hm0
          have hqm : q < m := by rw [hq]; exact Nat.mod_lt _ hm0
          have HP := hide hp
          have HQ := hide hq
          clear hp hq
          by_cases hpq : p = q
          · have hb : ((p : Int) == (q : Int)) = true := by simp [hpq]
            have ht : predsTo m (ps.take (k + 1)) = predsTo m (ps.take k) := by
              rw [List.take_add_one, unhide HE]
              simp only [Option.toList_some, predsTo_snoc]
              unfold bump
              rw [if_pos (by show a % m = c % m; rw [← unhide HP, ← unhide HQ]; exact hpq)]
            have HT := hide ht
            clear hpq ht
            go_wp2_with fail
            go_roundw
            case rel => exact ⟨k + 1, pv, by omega, by go_num, by rw [unhide HT]; exact hP.alloc _⟩
            case measure => simp [intOf]; omega
          · have hb : ((p : Int) == (q : Int)) = false := by simp; omega
            have ht : predsTo m (ps.take (k + 1)) = fun t => if t = q then predsTo m (ps.take k) t ++ [p] else predsTo m (ps.take k) t := by
              rw [List.take_add_one, unhide HE]
              simp only [Option.toList_some, predsTo_snoc]
              unfold bump
              rw [if_neg (by show ¬ a % m = c % m; rw [← unhide HP, ← unhide HQ]; exact hpq)]
              rw [← unhide HP, ← unhide HQ]
            have HT := hide ht
            clear hpq ht
            have hpl := predsTo_len m (ps.take k) q
            have hpl2 : (predsTo m (ps.take k) q).length ≤ 1024 := by simp at hpl; omega
            have hP1 := (hP.alloc (.cells #[.int .u16 a, .int .u16 c] 26)).alloc (.cells #[.int .i64 p] 3)
            obtain ⟨aq, cq, hv⟩ : ∃ aq cq, pv q = .slice aq (predsTo m (ps.take k) q).length cq := by
              rcases (hP.own q hqm).2 with ⟨e, e2⟩ | ⟨g, cap, cur, e, _⟩
              · exact ⟨none, 0, by rw [e, e2]⟩
              · exact ⟨_, cap, e⟩
            have gq := hP.cell q hqm
            rw [hv] at gq
            have lq := World.block_lt_of_cell? _ _ gq
            obtain ⟨i0, hi, hz0, hz1, hz2⟩ := info_parts Yba.info3
            have HO := hP1.own q hqm
            rw [hv] at HO
            clear hpl
            go_wp2_with (first | (at_builtin; refine wpList_append_lies _ rfl _ _ 27 rfl w.heap.size 3 i0 (.int .i64 0) 1 8 Yba.underlying27 hi hz0 hz1 hz2 rfl (by decide) _ _ _ rfl HO ⟨wr.heap.size + 1, 0, none⟩ 1 1 [.int .i64 p] rfl rfl ?c1 ?c2 (by decide) ?c3 ?c4 ?c5 (wr.heap.size + 2) ?c6 ?_))
            case c2 => rfl
            case c3 => unfold maxLen; omega
            case c4 => omega
            case c5 => have := hP.below.size; omega
            intro g cap3 w3 hown3 hgrow hat hlt3
            rw [← hv] at hgrow hat
            have hat2 : (pv q).ownBlock = some g ∨ ((wr.alloc (.cells #[.int .u16 a, .int .u16 c] 26)).alloc (.cells #[.int .i64 p] 3)).heap.size ≤ g := by
              rcases hat with e | e
              · exact Or.inl e
              · exact Or.inr (by simp; omega)
            have hP3 := hP1.push q p hqm (v' := .slice (some ⟨g, 0, none⟩) ((predsTo m (ps.take k) q).length + 1) cap3) (g := g) rfl hgrow hown3 hat2
            have r1 : w3.cell? ⟨w.heap.size, q, none⟩ = some (.slice aq (predsTo m (ps.take k) q).length cq) := by
              rw [← hv]; exact cell_grown hgrow (hP1.cell q hqm) (fun g' hg' e => hP1.ne q hqm (by rw [hg', e]))
            have r2 : w3.frozen? ⟨w.heap.size, q, none⟩ = false := by
              rw [hgrow.frozen_far _ (World.block_lt_of_cell? _ _ (hP1.cell q hqm)) (fun e => hP1.ne q hqm e.symm)]; exact hP1.free q hqm
            clear hgrow hat hat2 hown3 HO gq hP1 hv c0 c1 ea ec
            go_wp2_with fail
            go_roundw
            case rel => exact ⟨k + 1, _, by omega, by go_num, by rw [unhide HT]; exact hP3⟩
            case measure => simp [intOf]; omega
        · have ek : ps.take k = ps := List.take_of_length_le (by omega)
          rw [ek] at hP
          go_wp2_with fail
          go_meet
          exact ⟨pv, hP⟩
    · have h0 : m = 0 := by omega
      subst h0
      go_wp2_with fail
      go_meet
      exact ⟨fun _ => .slice none 0 0, fun t ht => by omega, fun t ht => by omega, fun t ht => by omega, fun s t hs => by omega, fun t ht => by omega, hP0.below, hP0.lo, hP0.size⟩
  case rest =>
    clear hcell hps
    obtain ⟨pv, hP⟩ := hcut
    have hpl : ∀ t, (predsTo m ps t).length ≤ 1024 := fun t => Nat.le_trans (predsTo_len m ps t) hl
    have hpr : ∀ t p, t < m → p ∈ predsTo m ps t → p < m ∧ p ≠ t := fun t p ht hp => predsTo_mem m (by omega) ps t p hp
    generalize predsTo m ps = preds at hP hpl hpr ⊢
    have HPL := hide hpl
    clear hpl
    generalize wc = w1 at hP ⊢
    go_upto_region 14 with fail
    go_cut [11] (fun v wx => ∃ bh brd, v = .pointer (some ⟨bh, 0, none⟩) ∧ NewH w1 wx m bh brd)
    case first =>
      have mk1 := fun (w : World) => make_run (P := Yba.prog) 27 3 (.int .i64 0) 8 Yba.underlying27 Yba.info3 rfl m (by omega) (by omega) w
      have mk2 := fun (w : World) => make_run (P := Yba.prog) 29 148 (.slice none 0 0) 24 Yba.underlying29 Yba.info148 rfl m (by omega) (by omega) w
      go_region
      all_goals go_wp2_with fail
      all_goals go_meet
      all_goals
        first
          | exact ⟨w1.heap.size + 2, w1.heap.size + 1, rfl, newH_of (three_blocks _ _ _ _).2.2 rfl rfl (three_blocks _ _ _ _).2.1 (by omega) (by omega) (three_below _ _ _ _).drew⟩
          | exact ⟨w1.heap.size + 2, w1.heap.size, rfl, newH_of (three_blocks _ _ _ _).2.2 rfl rfl (three_blocks _ _ _ _).1 (by omega) (by omega) (three_below _ _ _ _).drew⟩
    case rest =>
      obtain ⟨bh, brd, rfl, hH⟩ := hcut
      generalize wc = w2 at hH ⊢
      obtain ⟨bt, hbt⟩ := hH.h0
      go_wp2_with fail
      refine (newS_any bh w.heap.size m (some ⟨bt, 0, none⟩) m _ hm hbt).mono ?_
      rintro e w3 ⟨bs, bpl, blo, rfl, hN⟩
      clear hbt
      have mk1 := fun (w : World) => make_run (P := Yba.prog) 27 3 (.int .i64 0) 8 Yba.underlying27 Yba.info3 rfl m (by omega) (by omega) w
      go_wp2_with fail
      clear mk1
      have ls := lt_of_block hN.hs
      have lp := lt_of_block hN.hp
      have ll := lt_of_block hN.hl
      have e4 := fun k (hk : k < w3.heap.size) => Below.heap_alloc w3 (.cells (Array.replicate m (.int .i64 0)) 3) k hk
      have hs4 := (e4 bs ls).trans hN.hs
      have hp4 := (e4 bpl lp).trans hN.hp
      have hl4 := (e4 blo ll).trans hN.hl
      have ht4 : (w3.alloc (.cells (Array.replicate m (.int .i64 0)) 3)).heap[w3.heap.size]? = some (.cells (Array.replicate m (.int .i64 0)) 3 (0, 0)) := heap_alloc_new _ _
      have hb4 : Below w3.heap.size w3 (w3.alloc (.cells (Array.replicate m (.int .i64 0)) 3)) := (Below.refl _ _).alloc (Nat.le_refl _) _
      have hz4 : w3.heap.size < (w3.alloc (.cells (Array.replicate m (.int .i64 0)) 3)).heap.size := by simp
      generalize w3.alloc (.cells (Array.replicate m (.int .i64 0)) 3) = w4 at hs4 hp4 hl4 ht4 hb4 hz4 ⊢
      rw [← upTo_zero] at hl4 ht4
      clear e4
      have n1 : bs ≠ w3.heap.size := by omega
      have n2 : blo ≠ w3.heap.size := by omega
      have n3 : bs ≠ blo := hN.n2
      generalize hT : w3.heap.size = T at ls lp ll ht4 hz4 n1 n2 ⊢
      have HT := hide hT
      clear hT
      go_loopw [80] (fun i wr => ∃ k : Nat, k ≤ m ∧ i = .int .i64 k ∧ Fr (fun j => j = T ∨ j = blo) w4 wr ∧ wr.heap[T]? = some (.cells (upTo m k) 3 (0, 0)) ∧ wr.heap[blo]? = some (.cells (upTo m k) 3 (0, 0))) (fun i _ => m - (intOf i).toNat)
      case atStart => exact ⟨0, by omega, rfl, Fr.refl _ _, ht4, hl4⟩
      case round =>
        obtain ⟨k, hk, rfl, hF, hT, hL⟩ := hrel
        by_cases hlt : k < m
        · have hT' := blk_set hT k (.int .i64 k)
          have hL' : (wr.setCell ⟨T, k, none⟩ (.int .i64 k)).heap[blo]? = some (.cells (upTo m k) 3 (0, 0)) := by rw [Below.heap_setCell _ _ _ _ n2]; exact hL
          have hL2 := blk_set hL' k (.int .i64 k)
          have hT2 : ((wr.setCell ⟨T, k, none⟩ (.int .i64 k)).setCell ⟨blo, k, none⟩ (.int .i64 k)).heap[T]? = some (.cells ((upTo m k).setIfInBounds k (.int .i64 k)) 3 (0, 0)) := by rw [Below.heap_setCell _ _ _ _ n2.symm]; exact hT'
          rw [upTo_set] at hL2 hT2
          have hs5 : (wr.setCell ⟨T, k, none⟩ (.int .i64 k)).heap[bs]? = w4.heap[bs]? := by
            rw [Below.heap_setCell _ _ _ _ n1, hF.block bs (by omega) (by intro h; exact h.elim n1 n3)]
          rw [hs4] at hs5
          have c1 : wr.cell? ⟨T, k, none⟩ = some (.int .i64 0) := by rw [blk_cell hT, upTo_get m k k hlt]; simp
          have f1 := blk_free hT k
          have c2 : (wr.setCell ⟨T, k, none⟩ (.int .i64 k)).cell? ⟨bs, 5, none⟩ = some (.slice (some ⟨blo, 0, none⟩) m m) := by rw [blk_cell hs5]; rfl
          have c3 : (wr.setCell ⟨T, k, none⟩ (.int .i64 k)).cell? ⟨blo, k, none⟩ = some (.int .i64 0) := by rw [blk_cell hL', upTo_get m k k hlt]; simp
          have f3 := blk_free hL' k
          have hF2 := (hF.setCell (a := ⟨T, k, none⟩) (Or.inl rfl) (.int .i64 k)).setCell (a := ⟨blo, k, none⟩) (Or.inr rfl) (.int .i64 k)
          have R := hide (And.intro hF2 (And.intro hT2 hL2))
          clear hF2 hT2 hL2 hT' hL' hs5
          go_wp2_with fail
          go_roundw
          case rel => exact ⟨k + 1, by omega, by go_num, (unhide R).1, (unhide R).2.1, (unhide R).2.2⟩
          case measure => simp [intOf]; omega
        · have : m = k := by omega
          subst this
          obtain ⟨hX, hBX, hs5⟩ := setup_XS hP hH hN (unhide HT) hb4 hz4 hF hT hL
          have c3 : wr.cell? ⟨bs, 3, none⟩ = some (.slice none 0 0) := by rw [blk_cell hs5]; rfl
          have c4 : wr.cell? ⟨bs, 4, none⟩ = some (.slice none 0 0) := by rw [blk_cell hs5]; rfl
          have f3 := blk_free hs5 3
          have f4 := blk_free hs5 4
          clear hs5 hT hL hF hP hH hN hb4 hs4 hp4 hl4 ht4
          go_wp2_with fail
          refine (ext_top ⟨bs, bh, w.heap.size, bpl, T, blo, brd, pv, .slice none 0 0⟩ w.heap.size m preds hm (unhide HPL) hpr _ hX (by have := hBX.size; omega)).mono ?_
          rintro e w5 ⟨ov, rfl, hX5, hB5⟩
          have hBW : Below w.heap.size w w5 := hBX.trans hB5
          clear hX hBX hB5 c3 c4 f3 f4
          have mk1 := fun (w : World) => make_run (P := Yba.prog) 35 4 (.bool false) 1 Yba.underlying35 Yba.info4 rfl m (by omega) (by omega) w
          go_upto_block 4 with fail
          clear mk1
          have hD0 : DN w5 (w5.alloc (.cells (Array.replicate m (.bool false)) 4)) m (fun _ => false) [] (.slice none 0 0) :=
            ⟨fun t ht => by simp [ht], fun t ht => by simp, World.ownsRow_nil _ _ _ _, (Below.refl _ _).alloc (Nat.le_refl _) _, by simp⟩
          generalize w5.alloc (.cells (Array.replicate m (.bool false)) 4) = w6 at hD0 ⊢
          go_cut [17, 18] (fun v c wx => c = .bool (gAll m preds).isSome ∧ ((gAll m preds).isSome = true → wx.ownsRow 0 3 1 v (gOr m preds).length (ints (gOr m preds))) ∧ Below w5.heap.size w5 wx)
          case first =>
            go_wp2_with fail
            go_loopw [17, 18, 19] (fun v c i wr => ∃ (s : Nat) (pl : Nat → Bool) (o : List Nat), s ≤ m ∧ i = .int .i64 s ∧ c = .bool true ∧ Hid (greedy m preds s (fun _ => false) [] = some (pl, o)) ∧ DN w5 wr m pl o v) (fun _ _ i _ => m - (intOf i).toNat)
            case atStart => exact ⟨0, _, _, by omega, rfl, rfl, rfl, hD0⟩
            case round =>
              clear hD0
              obtain ⟨s, pl, o, hs, rfl, rfl, hg, hD⟩ := hrel
              have hS := hX5.ss.below hD.below
              by_cases hsm : s < m
              · go_wp2_with fail
                go_loop [20, 21] (fun pk i => ∃ t : Nat, t ≤ m ∧ i = .int .i64 t ∧ ((pk = .int .i64 (-1) ∧ ∀ u, u < t → free preds pl u = false) ∨ ∃ u : Nat, u < m ∧ pk = .int .i64 u ∧ Hid (nextP m preds pl = some u))) (fun _ i => m - (intOf i).toNat)
                case atStart => exact ⟨0, by omega, rfl, Or.inl ⟨rfl, fun u hu => by omega⟩⟩
                case round =>
                  obtain ⟨t, ht, rfl, hpk⟩ := hrel
                  rcases hpk with ⟨rfl, hno⟩ | ⟨u, hu, rfl, hnx⟩
                  · by_cases htm : t < m
                    · have gd := hD.cell t htm
                      cases hpt : pl t
                      · rw [hpt] at gd
                        have HPT := hide hpt
                        have HNO := hide hno
                        clear hpt hno
                        obtain ⟨aq, cq, hpv, hcs⟩ := hS.look t htm
                        have gq := hS.prd t htm
                        rw [hpv] at gq
                        clear hpv
                        have hll := (unhide HPL) t
                        go_upto_block 8 with fail
                        go_cut [22] (fun f wx => f = .bool ((preds t).all fun p => pl p) ∧ wx = wr)
                        case first =>
                          go_wp2_with fail
                          go_loop [22, 129] (fun f i => ∃ j : Nat, j ≤ (preds t).length ∧ i = .int .i64 j ∧ f = .bool true ∧ ∀ x ∈ (preds t).take j, pl x = true) (fun _ i => (preds t).length - (intOf i).toNat)
                          case atStart => exact ⟨0, by omega, rfl, rfl, fun x hx => by simp at hx⟩
                          case round =>
                            obtain ⟨j, hj, rfl, rfl, hsofar⟩ := hrel
                            have HSF := hide hsofar
                            clear hsofar
                            by_cases hjl : j < (preds t).length
                            · obtain ⟨g, rfl, hcell⟩ := hcs.resolve_left (by omega)
                              obtain ⟨p, hp⟩ : ∃ p, (preds t)[j]? = some p := ⟨_, List.getElem?_eq_getElem hjl⟩
                              have HP := hide hp
                              have hcj := hcell j p hp
                              obtain ⟨hpm, _⟩ := hpr t p htm (List.mem_of_getElem? hp)
                              have gp := hD.cell p hpm
                              clear hp hcell hcs
                              cases hpp : pl p
                              · rw [hpp] at gp
                                have HPP := hide hpp
                                clear hpp
                                go_wp2_with fail
                                go_meet
                                refine ⟨?_, rfl⟩
                                have : ((preds t).all fun p => pl p) = false := List.all_eq_false.2 ⟨p, List.mem_of_getElem? (unhide HP), by rw [unhide HPP]; simp⟩
                                rw [this]
                              · rw [hpp] at gp
                                have HPP := hide hpp
                                clear hpp
                                go_wp2_with fail
                                go_round
                                case rel =>
                                  refine ⟨j + 1, by omega, by go_num, rfl, fun x hx => ?_⟩
                                  rw [List.take_add_one, unhide HP] at hx
                                  simp only [Option.toList_some, List.mem_append, List.mem_singleton] at hx
                                  rcases hx with hx | hx
                                  · exact unhide HSF x hx
                                  · rw [hx]; exact unhide HPP
                                case measure => simp [intOf]; omega
                            · go_wp2_with fail
                              go_meet
                              refine ⟨?_, rfl⟩
                              have : ((preds t).all fun p => pl p) = true := List.all_eq_true.2 (fun x hx => unhide HSF x (by rw [List.take_of_length_le (by omega)]; exact hx))
                              rw [this]
                        case rest =>
                          obtain ⟨rfl, rfl⟩ := hcut
                          clear gd gq
                          cases hall : (preds t).all fun p => pl p
                          · have hf : free preds pl t = false := by simp only [free, unhide HPT, hall]; rfl
                            have HF := hide hf
                            clear hf hall
                            go_wp2_with fail
                            go_round
                            case rel =>
                              refine ⟨t + 1, by omega, by go_num, Or.inl ⟨rfl, fun u hu => ?_⟩⟩
                              by_cases e : u = t
                              · rw [e]; exact unhide HF
                              · exact unhide HNO u (by omega)
                            case measure => simp [intOf]; omega
                          · have hf : free preds pl t = true := by simp only [free, unhide HPT, hall]; rfl
                            have HF := hide (nextP_first htm (unhide HNO) hf)
                            clear hf hall
                            go_wp2_with fail
                            go_round
                            case rel => exact ⟨t + 1, by omega, by go_num, Or.inr ⟨t, htm, rfl, HF⟩⟩
                            case measure => simp [intOf]; omega
                      · rw [hpt] at gd
                        have HPT := hide hpt
                        have HNO := hide hno
                        clear hpt hno
                        go_wp2_with fail
                        go_round
                        case rel =>
                          refine ⟨t + 1, by omega, by go_num, Or.inl ⟨rfl, fun u hu => ?_⟩⟩
                          by_cases e : u = t
                          · rw [e]; simp [free, unhide HPT]
                          · exact unhide HNO u (by omega)
                        case measure => simp [intOf]; omega
                    · have hnone := nextP_none_of (m := m) (fun u hu => hno u (by omega))
                      have hga := gAll_none_of hsm hg.out hnone
                      have HGA := hide hga
                      clear hno hnone hga
                      go_wp2_with fail
                      go_meet
                      rw [unhide HGA]
                      exact ⟨rfl, (fun h => by cases h), hD.below⟩
                  · have gd := hD.cell u hu
                    have gf := hD.free u hu
                    have hD2 := (hD.mark u hu).alloc (.cells #[.int .i64 u] 3)
                    have HG2 := hide (greedy_next hg.out hnx.out)
                    obtain ⟨i0, hi, hz0, hz1, hz2⟩ := info_parts Yba.info3
                    have hol : o.length ≤ 255 := by
                      have := (greedy_left _ _ _ _ _ hg.out).2
                      simp at this; omega
                    by_cases htm : t < m
                    all_goals
                      go_wp2_with (first | (at_builtin; refine wpList_append_own _ rfl _ _ 27 rfl (w5.heap.size + 1) 3 i0 (.int .i64 0) 1 8 Yba.underlying27 hi hz0 hz1 hz2 rfl (by decide) _ _ _ rfl hD2.own ⟨wr.heap.size, 0, none⟩ 1 1 [.int .i64 u] rfl rfl (by simpa using cell_one_new (wr.setCell ⟨w5.heap.size, u, none⟩ (.bool true)) (.int .i64 u) 3) (by intro x hx; simp at hx; subst hx; rfl) (by unfold maxLen; omega) (by omega) (by have := hD2.size; omega) ?_; intro v' w8 hown8 hgrow8 _))
                      have hD8 := hD2.grown (o' := o ++ [u]) hgrow8 (by simpa [ints] using hown8)
                      clear hown8 hgrow8
                      go_wp2_with fail
                      go_roundw
                      case rel => exact ⟨s + 1, _, _, by omega, by go_num, rfl, HG2, hD8⟩
                      case measure => simp [intOf]; omega
              · have e : s = m := by omega
                rw [e] at hg
                have hg' : gAll m preds = some (pl, o) := hg.out
                go_wp2_with fail
                go_meet
                refine ⟨by rw [hg']; rfl, fun _ => ?_, hD.below⟩
                have : gOr m preds = o := by simp [gOr, hg']
                rw [this]; exact ownsRow_base hD.own (Nat.zero_le _)
          case rest =>
            obtain ⟨rfl, hwant, hB7⟩ := hcut
            have hX7 := hX5.below hB7
            clear hX5 hD0 hpr
            have hBW7 : Below w.heap.size w wc := hBW.trans (hB7.mono hBW.size)
            cases hG : gAll m preds with
            | none =>
              simp only [Option.isSome_none]
              have g2 := hX7.ss.f2
              have g4 := hX7.f4
              have hpl2 : ∀ t, t < m → wc.cell? ⟨bpl, t, none⟩ = some (.bool false) := fun t ht => by
                have := hX7.ss.plc t ht
                simpa [gPl, hG] using this
              have hor : gOr m preds = [] := by simp [gOr, hG]
              obtain ⟨a4, c4, hov, _⟩ := own_look hX7.oo
              rw [hor] at hov
              rw [hov] at g4
              have HPL2 := hide hpl2
              clear hov hor hG hpl2 hwant
              go_wp2_with fail
              go_loop [25] (fun i => ∃ k : Nat, k ≤ m ∧ i = .int .i64 k) (fun i => m - (intOf i).toNat)
              case atStart => exact ⟨0, by omega, rfl⟩
              case round =>
                obtain ⟨k, hk2, rfl⟩ := hrel
                by_cases hkm : k < m
                · have gk := unhide HPL2 k hkm
                  go_wp2_with fail
                  go_round
                  case rel => exact ⟨k + 1, by omega, by go_num⟩
                  case measure => simp [intOf]; omega
                · go_wp2_with fail
                  go_ret
                  exact ⟨rfl, hBW7⟩
            | some q =>
              have g2 := hX7.ss.f2
              have g4 := hX7.f4
              obtain ⟨pl', o'⟩ := q
              have hzero := left_zero (m := m) (pl := pl') (by
                have := (greedy_left _ _ _ _ _ (show greedy m preds m (fun _ => false) [] = some (pl', o') from hG)).1
                rw [left_all] at this; omega)
              have hpl2 : ∀ t, t < m → wc.cell? ⟨bpl, t, none⟩ = some (.bool true) := fun t ht => by
                have h1 := hX7.ss.plc t ht
                have h2 : gPl m preds = pl' := by simp [gPl, hG]
                rw [h2, hzero t ht] at h1; exact h1
              have hol : (gOr m preds).length ≤ 255 := by
                have h2 : gOr m preds = o' := by simp [gOr, hG]
                have := (greedy_left _ _ _ _ _ (show greedy m preds m (fun _ => false) [] = some (pl', o') from hG)).2
                rw [h2]; simp at this; omega
              replace hwant := hwant (by rw [hG]; rfl)
              simp only [Option.isSome_some]
              generalize gOr m preds = L at hwant hX7 hol ⊢
              obtain ⟨a4, c4, hov, hc4⟩ := own_look hX7.oo
              obtain ⟨a5, c5, hwv, hc5⟩ := own_look hwant
              rw [hov] at g4
              subst hwv
              have HPL2 := hide hpl2
              clear hov hG hpl2 hwant hX7 hzero
              go_wp2_with fail
              go_loopw [183] (fun i wx => ∃ k q : Nat, k ≤ L.length ∧ i = .int .i64 k ∧ wx = wc.drewN q) (fun i _ => L.length - (intOf i).toNat)
              case atStart => exact ⟨0, 0, by omega, rfl, rfl⟩
              case round =>
                obtain ⟨k, q, hk2, rfl, rfl⟩ := hrel
                by_cases hkL : k < L.length
                · obtain ⟨g1, rfl, hc4'⟩ := hc4.resolve_left (by omega)
                  obtain ⟨g5, rfl, hc5'⟩ := hc5.resolve_left (by omega)
                  obtain ⟨x, hx⟩ : ∃ x, L[k]? = some x := ⟨_, List.getElem?_eq_getElem hkL⟩
                  have d1 := hc4' k x hx
                  have d2 := hc5' k x hx
                  clear hx hc4 hc5 hc4' hc5'
                  go_wp2_with fail
                  go_quiet (fail)
                  go_wp2_with fail
                  go_roundw
                  case rel => exact ⟨k + 1, _, by omega, by go_num, rfl⟩
                  case measure => simp [intOf]; omega
                · go_wp2_with fail
                  go_loop [27] (fun i => ∃ k : Nat, k ≤ m ∧ i = .int .i64 k) (fun i => m - (intOf i).toNat)
                  case atStart => exact ⟨0, by omega, rfl⟩
                  case round =>
                    obtain ⟨k, hk2, rfl⟩ := hrel
                    by_cases hkm : k < m
                    · have gk := unhide HPL2 k hkm
                      go_wp2_with fail
                      go_round
                      case rel => exact ⟨k + 1, by omega, by go_num⟩
                      case measure => simp [intOf]; omega
                    · go_wp2_with fail
                      go_ret
                      exact ⟨rfl, belowDrewN hBW7 q⟩
end Go.Proofs.Ybulkapdi
