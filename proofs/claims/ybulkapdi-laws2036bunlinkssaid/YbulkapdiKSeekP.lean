import Derived.Test.YbulkapdiKSeek
namespace Go.Proofs.Ybulkapdi.K
open Go.RowKit

/-- What a search with preds leaves, and keeps on the way. -/
structure PS (w0 wr : World) (bp bk : Nat) (kv pk : Value) : Prop where
  below : Below w0.heap.size w0 wr
  arr : ∃ cs, wr.heap[bp]? = some (.cells cs 120 (0, 0)) ∧ cs.size = 20
  k0 : wr.cell? ⟨bk, 0, none⟩ = some kv
  k1 : wr.cell? ⟨bk, 1, none⟩ = some pk

theorem PS.later {w0 wr w' : World} {bp bk : Nat} {kv pk : Value} (h : PS w0 wr bp bk kv pk) (hb : Below wr.heap.size wr w') : PS w0 w' bp bk kv pk := by
  obtain ⟨cs, h1, h2⟩ := h.arr
  exact ⟨h.below.trans (hb.mono h.below.size), ⟨cs, blk_below hb h1, h2⟩, cell_below hb h.k0, cell_below hb h.k1⟩

theorem PS.put {w0 wr : World} {bp bk : Nat} {kv pk : Value} (h : PS w0 wr bp bk kv pk) (hbp : w0.heap.size ≤ bp) (hne : bp ≠ bk) (i : Nat) (v : Value) : PS w0 (wr.setCell ⟨bp, i, none⟩ v) bp bk kv pk := by
  obtain ⟨cs, h1, h2⟩ := h.arr
  refine ⟨h.below.setCell hbp _, ⟨_, blk_set h1 i v, by simpa using h2⟩, ?_, ?_⟩
  · rw [World.cell?_setCell_other _ _ _ _ (fun e => hne (congrArg Addr.block e))]; exact h.k0
  · rw [World.cell?_setCell_other _ _ _ _ (fun e => hne (congrArg Addr.block e))]; exact h.k1

theorem PS.at {w0 wr : World} {bp bk : Nat} {kv pk : Value} (h : PS w0 wr bp bk kv pk) (i : Nat) (hi : i < 20) : (∃ u, wr.cell? ⟨bp, i, none⟩ = some u) ∧ wr.frozen? ⟨bp, i, none⟩ = false := by
  obtain ⟨cs, h1, h2⟩ := h.arr
  exact ⟨⟨_, by rw [blk_cell h1]; exact Array.getElem?_eq_getElem (by omega)⟩, blk_free h1 i⟩

set_option maxHeartbeats 1000000 in
theorem seek_preds (bi bu kb kc bp : Nat) (l : List UInt8) (L : List KN) (w0 w : World) (h : IL w0 bi bu L) (hk : KB w0 kb l) (hB0 : Below w0.heap.size w0 w) (hbp : w0.heap.size ≤ bp) (harr : ∃ cs, w.heap[bp]? = some (.cells cs 120 (0, 0)) ∧ cs.size = 20) :
    Calls Yba.prog 14 #[.pointer (some ⟨bi, 0, none⟩), .agg #[.slice (some ⟨kb, 0, none⟩) l.length kc, .int .u64 (pre l)], .pointer (some ⟨bp, 0, none⟩)] w fun e w' => e = .returned (.pointer (nxt (L.drop (pos L l)))) ∧ Below w0.heap.size w0 w' ∧ w'.cell? ⟨bp, 0, none⟩ = some (.pointer (some ⟨blockAt bi L (pos L l), 0, none⟩)) := by
  have hB1 : Below w.heap.size w (w.alloc (.cells #[.slice (some ⟨kb, 0, none⟩) l.length kc, .int .u64 (pre l)] 116)) := (Below.refl _ _).alloc (Nat.le_refl _) _
  have q0 : (w.alloc (.cells #[.slice (some ⟨kb, 0, none⟩) l.length kc, .int .u64 (pre l)] 116)).cell? ⟨w.heap.size, 0, none⟩ = some (.slice (some ⟨kb, 0, none⟩) l.length kc) := by simp
  have q1 : (w.alloc (.cells #[.slice (some ⟨kb, 0, none⟩) l.length kc, .int .u64 (pre l)] 116)).cell? ⟨w.heap.size, 1, none⟩ = some (.int .u64 (pre l)) := by simp
  have hbw : bp < w.heap.size := by obtain ⟨cs, e, _⟩ := harr; exact lt_of_block e
  have hne : bp ≠ w.heap.size := by omega
  have hP1 : PS w0 (w.alloc (.cells #[.slice (some ⟨kb, 0, none⟩) l.length kc, .int .u64 (pre l)] 116)) bp w.heap.size (.slice (some ⟨kb, 0, none⟩) l.length kc) (.int .u64 (pre l)) := by
    obtain ⟨cs, e1, e2⟩ := harr
    exact ⟨hB0.trans (hB1.mono hB0.size), ⟨cs, blk_below hB1 e1, e2⟩, q0, q1⟩
  clear q0 q1 harr hB1
  go_enter Yba.func14, Yba.ntmps14
  go_wp2_with fail
  generalize w.alloc (.cells #[.slice (some ⟨kb, 0, none⟩) l.length kc, .int .u64 (pre l)] 116) = w1 at hP1 ⊢
  generalize w.heap.size = bk at hP1 hne ⊢
  go_loopw [7, 8, 9] (fun x nx lv wr => PS w0 wr bp bk (.slice (some ⟨kb, 0, none⟩) l.length kc) (.int .u64 (pre l)) ∧ ((∃ v : Nat, v ≤ 19 ∧ lv = .int .i64 v ∧ x = .pointer (some ⟨bi, 0, none⟩)) ∨ (lv = .int .i64 (-1) ∧ nx = .pointer (nxt (L.drop (pos L l))) ∧ wr.cell? ⟨bp, 0, none⟩ = some (.pointer (some ⟨blockAt bi L (pos L l), 0, none⟩))))) (fun _ _ lv _ => (intOf lv + 1).toNat)
  case atStart => exact ⟨hP1, Or.inl ⟨19, by omega, rfl, rfl⟩⟩
  case round =>
    clear hP1
    obtain ⟨hP, hcase⟩ := hrel
    have hI := h.below hP.below
    rcases hcase with ⟨v, hv, rfl, rfl⟩ | ⟨rfl, rfl, hfin⟩
    · by_cases h0 : v = 0
      · subst h0
        have n0 := hI.next 0 (by omega)
        have p0 := hI.np 0
        have n0' : wr.cell? ⟨bi, 5, none⟩ = some (.pointer (nxt (L.drop 0))) := n0
        go_wp2_with (first | (go_at_call 24; refine (link_zero bi 0 _).mono ?_; rintro e w' ⟨rfl, rfl⟩) | (go_at_call 12; refine (load_any bi 5 _ _ n0' p0).mono ?_; rintro e w' ⟨rfl, rfl⟩))
        generalize wr = w2 at hP hI ⊢
        clear n0 p0 n0'
        go_loopg [7, 8] L.length (fun gk x nx wr => PS w0 wr bp bk (.slice (some ⟨kb, 0, none⟩) l.length kc) (.int .u64 (pre l)) ∧ ∃ i : Nat, gk = L.length - i ∧ i ≤ L.length ∧ x = .pointer (some ⟨blockAt bi L i, 0, none⟩) ∧ nx = .pointer (nxt (L.drop i)) ∧ Hid (∀ (m : Nat) (n : KN), m < i → L[m]? = some n → ltK n.l l = true))
        case atStart => exact ⟨hP, 0, by omega, by omega, rfl, rfl, fun m n hm => by omega⟩
        case round =>
          clear hP hI
          obtain ⟨hP, i, hgk, hi, rfl, rfl, hso⟩ := hrel
          have HGK := hide hgk
          clear hgk
          have hI := h.below hP.below
          by_cases hil : i < L.length
          · obtain ⟨n, hn⟩ : ∃ n, L[i]? = some n := ⟨_, List.getElem?_eq_getElem hil⟩
            have en := nxt_drop_some hn
            have eb : blockAt bi L (i + 1) = n.g := by simp [blockAt, hn]
            have hnode := hI.node i n hn
            have hK := hI.key n (List.mem_of_getElem? hn)
            have hk2 := hk.below hP.below
            have r0 := hP.k0
            have r1 := hP.k1
            have c6 : wr.cell? ⟨n.g, 6, none⟩ = some (.slice (some ⟨n.kb, 0, none⟩) n.l.length n.kc) := by rw [blk_cell hnode]; rfl
            have c4 : wr.cell? ⟨n.g, 4, none⟩ = some (.int .u64 (pre n.l)) := by rw [blk_cell hnode]; rfl
            have HN := hide hn
            have EB := hide eb
            rw [en]
            clear hn en eb hnode
            go_wp2_with fail
            refine (nbefore_any n.g n.kb n.kc kb kc n.l l _ hK.lt hk2.lt c6 c4 hK.cell hk2.cell).mono ?_
            rintro e w3 ⟨rfl, hB3⟩
            have hP' := hP.later hB3
            cases hlt : ltK n.l l
            · have hp := pos_of (l := l) hi hso.out (Or.inr ⟨n, unhide HN, hlt⟩)
              have HP := hide hp
              obtain ⟨⟨u0, hu0⟩, hz0⟩ := hP'.at 0 (by omega)
              clear hlt hp
              go_wp2_with fail
              go_roundw
              case rel => exact ⟨hP'.put hbp hne 0 _, Or.inr ⟨rfl, by rw [unhide HP, nxt_drop_some (unhide HN)], by rw [unhide HP]; exact World.cell?_setCell_same _ _ _ hu0⟩⟩
              case measure => simp [intOf]
            · have hs2 : Hid (∀ (m : Nat) (n : KN), m < i + 1 → L[m]? = some n → ltK n.l l = true) := hide (fun m n' hm hn' => by
                by_cases e : m = i
                · subst e; rw [unhide HN] at hn'; simp at hn'; subst hn'; exact hlt
                · exact hso.out m n' (by omega) hn')
              have hI3 := h.below hP'.below
              have n1 := hI3.next (i + 1) hil
              rw [unhide EB] at n1
              have p1 := hI3.np (i + 1)
              clear hlt
              go_wp2_with (first | (go_at_call 24; refine (link_zero n.g 0 _).mono ?_; rintro e w' ⟨rfl, rfl⟩) | (go_at_call 12; refine (load_any n.g 5 _ _ n1 p1).mono ?_; rintro e w' ⟨rfl, rfl⟩))
              go_roundg (L.length - (i + 1))
              case measure => have := unhide HGK; omega
              case rel => exact ⟨hP', i + 1, rfl, by omega, by rw [unhide EB], rfl, hs2⟩
          · have hp := pos_of (l := l) hi hso.out (Or.inl (by omega))
            have en : nxt (L.drop i) = none := by rw [List.drop_of_length_le (by omega)]; rfl
            have HP := hide hp
            have EN := hide en
            rw [en]
            obtain ⟨⟨u0, hu0⟩, hz0⟩ := hP.at 0 (by omega)
            clear hp en
            go_wp2_with fail
            go_roundw
            case rel => exact ⟨hP.put hbp hne 0 _, Or.inr ⟨rfl, by rw [unhide HP, unhide EN], by rw [unhide HP]; exact World.cell?_setCell_same _ _ _ hu0⟩⟩
            case measure => simp [intOf]
      · have hup : wr.cell? ⟨bi, 7, none⟩ = some (.slice (some ⟨bu, 0, none⟩) 19 19) := by rw [blk_cell hI.head]; rfl
        have hz : wr.cell? ⟨bu, v - 1, none⟩ = some (.pointer none) := by rw [blk_cell hI.up, Array.getElem?_replicate, if_pos (by omega)]
        go_wp2_with (first | (go_at_call 24; refine (link_up bi bu v _ (by omega) hv hup).mono ?_; rintro e w' ⟨rfl, rfl⟩) | (go_at_call 12; refine (load_any bu (v - 1) none _ hz (Or.inl rfl)).mono ?_; rintro e w' ⟨rfl, rfl⟩))
        obtain ⟨⟨u0, hu0⟩, hz0⟩ := hP.at v (by omega)
        refine wp_loop_rounds 1 ?_
        rw [rounds_succ]
        go_wp2_with fail
        go_roundw
        case rel => exact ⟨hP.put hbp hne v _, Or.inl ⟨v - 1, by omega, congrArg (Value.int .i64) (by omega), rfl⟩⟩
        case measure => simp [intOf]
    · go_wp2_with fail
      go_ret
      exact ⟨rfl, hP.below, hfin⟩
end Go.Proofs.Ybulkapdi.K
