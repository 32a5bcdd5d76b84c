import Derived.Test.YbulkapdiKIdx
import Derived.Deep.LoopGhost
namespace Go.Proofs.Ybulkapdi.K
open Go.RowKit

set_option maxHeartbeats 1000000 in
theorem seek_nil (bi bu kb kc : Nat) (l : List UInt8) (L : List KN) (w : World) (h : IL w bi bu L) (hk : KB w kb l) :
    Calls Yba.prog 14 #[.pointer (some ⟨bi, 0, none⟩), .agg #[.slice (some ⟨kb, 0, none⟩) l.length kc, .int .u64 (pre l)], .pointer none] w fun e w' => e = .returned (.pointer (nxt (L.drop (pos L l)))) ∧ Below w.heap.size w w' := by
  have hB1 : Below w.heap.size w (w.alloc (.cells #[.slice (some ⟨kb, 0, none⟩) l.length kc, .int .u64 (pre l)] 116)) := (Below.refl _ _).alloc (Nat.le_refl _) _
  have q0 : (w.alloc (.cells #[.slice (some ⟨kb, 0, none⟩) l.length kc, .int .u64 (pre l)] 116)).cell? ⟨w.heap.size, 0, none⟩ = some (.slice (some ⟨kb, 0, none⟩) l.length kc) := by simp
  have q1 : (w.alloc (.cells #[.slice (some ⟨kb, 0, none⟩) l.length kc, .int .u64 (pre l)] 116)).cell? ⟨w.heap.size, 1, none⟩ = some (.int .u64 (pre l)) := by simp
  have h1 := h.below hB1
  have hk1 := hk.below hB1
  go_enter Yba.func14, Yba.ntmps14
  go_wp2_with fail
  generalize w.alloc (.cells #[.slice (some ⟨kb, 0, none⟩) l.length kc, .int .u64 (pre l)] 116) = w1 at hB1 q0 q1 h1 hk1 ⊢
  go_loopw [7, 8, 9] (fun x nx lv wr => Below w1.heap.size w1 wr ∧ ((∃ v : Nat, v ≤ 19 ∧ lv = .int .i64 v ∧ x = .pointer (some ⟨bi, 0, none⟩)) ∨ (lv = .int .i64 (-1) ∧ nx = .pointer (nxt (L.drop (pos L l)))))) (fun _ _ lv _ => (intOf lv + 1).toNat)
  case atStart => exact ⟨Below.refl _ _, Or.inl ⟨19, by omega, rfl, rfl⟩⟩
  case round =>
    obtain ⟨hB, hcase⟩ := hrel
    have hI := h1.below hB
    rcases hcase with ⟨v, hv, rfl, rfl⟩ | ⟨rfl, rfl⟩
    · by_cases h0 : v = 0
      · subst h0
        have n0 := hI.next 0 (by omega)
        have p0 := hI.np 0
        have n0' : wr.cell? ⟨bi, 5, none⟩ = some (.pointer (nxt (L.drop 0))) := n0
        go_wp2_with (first | (go_at_call 24; refine (link_zero bi 0 _).mono ?_; rintro e w' ⟨rfl, rfl⟩) | (go_at_call 12; refine (load_any bi 5 _ _ n0' p0).mono ?_; rintro e w' ⟨rfl, rfl⟩))
        generalize wr = w2 at hB hI ⊢
        clear n0 p0 n0'
        go_loopg [7, 8] L.length (fun gk x nx wr => Below w1.heap.size w1 wr ∧ ∃ i : Nat, gk = L.length - i ∧ i ≤ L.length ∧ x = .pointer (some ⟨blockAt bi L i, 0, none⟩) ∧ nx = .pointer (nxt (L.drop i)) ∧ Hid (∀ (m : Nat) (n : KN), m < i → L[m]? = some n → ltK n.l l = true))
        case atStart => exact ⟨hB, 0, by omega, by omega, rfl, rfl, fun m n hm => by omega⟩
        case round =>
          clear hB hI
          obtain ⟨hB, i, hgk, hi, rfl, rfl, hso⟩ := hrel
          have HGK := hide hgk
          clear hgk
          have hI := h1.below hB
          by_cases hil : i < L.length
          · obtain ⟨n, hn⟩ : ∃ n, L[i]? = some n := ⟨_, List.getElem?_eq_getElem hil⟩
            have en := nxt_drop_some hn
            have eb : blockAt bi L (i + 1) = n.g := by simp [blockAt, hn]
            have hnode := hI.node i n hn
            have hK := hI.key n (List.mem_of_getElem? hn)
            have hk2 := hk1.below hB
            have r0 := cell_below hB q0
            have r1 := cell_below hB q1
            have c6 : wr.cell? ⟨n.g, 6, none⟩ = some (.slice (some ⟨n.kb, 0, none⟩) n.l.length n.kc) := by rw [blk_cell hnode]; rfl
            have c4 : wr.cell? ⟨n.g, 4, none⟩ = some (.int .u64 (pre n.l)) := by rw [blk_cell hnode]; rfl
            have HN := hide hn
            have EB := hide eb
            rw [en]
            clear hn en eb hnode
            go_wp2_with fail
            refine (nbefore_any n.g n.kb n.kc kb kc n.l l _ hK.lt hk2.lt c6 c4 hK.cell hk2.cell).mono ?_
            rintro e w3 ⟨rfl, hB3⟩
            have hB' : Below w1.heap.size w1 w3 := hB.trans (hB3.mono hB.size)
            cases hlt : ltK n.l l
            · have hp := pos_of (l := l) hi hso.out (Or.inr ⟨n, unhide HN, hlt⟩)
              have HP := hide hp
              clear hlt hp
              go_wp2_with fail
              go_roundw
              case rel => exact ⟨hB', Or.inr ⟨rfl, by rw [unhide HP, nxt_drop_some (unhide HN)]⟩⟩
              case measure => simp [intOf]
            · have hs2 : Hid (∀ (m : Nat) (n : KN), m < i + 1 → L[m]? = some n → ltK n.l l = true) := hide (fun m n' hm hn' => by
                by_cases e : m = i
                · subst e; rw [unhide HN] at hn'; simp at hn'; subst hn'; exact hlt
                · exact hso.out m n' (by omega) hn')
              have hI3 := h1.below hB'
              have n1 := hI3.next (i + 1) hil
              rw [unhide EB] at n1
              have p1 := hI3.np (i + 1)
              clear hlt
              go_wp2_with (first | (go_at_call 24; refine (link_zero n.g 0 _).mono ?_; rintro e w' ⟨rfl, rfl⟩) | (go_at_call 12; refine (load_any n.g 5 _ _ n1 p1).mono ?_; rintro e w' ⟨rfl, rfl⟩))
              go_roundg (L.length - (i + 1))
              case measure => have := unhide HGK; omega
              case rel => exact ⟨hB', i + 1, rfl, by omega, by rw [unhide EB], rfl, hs2⟩
          · have hp := pos_of (l := l) hi hso.out (Or.inl (by omega))
            have en : nxt (L.drop i) = none := by rw [List.drop_of_length_le (by omega)]; rfl
            have HP := hide hp
            have EN := hide en
            rw [en]
            clear hp en
            go_wp2_with fail
            go_roundw
            case rel => exact ⟨hB, Or.inr ⟨rfl, by rw [unhide HP, unhide EN]⟩⟩
            case measure => simp [intOf]
      · have hup : wr.cell? ⟨bi, 7, none⟩ = some (.slice (some ⟨bu, 0, none⟩) 19 19) := by rw [blk_cell hI.head]; rfl
        have hz : wr.cell? ⟨bu, v - 1, none⟩ = some (.pointer none) := by rw [blk_cell hI.up, Array.getElem?_replicate, if_pos (by omega)]
        go_wp2_with (first | (go_at_call 24; refine (link_up bi bu v _ (by omega) hv hup).mono ?_; rintro e w' ⟨rfl, rfl⟩) | (go_at_call 12; refine (load_any bu (v - 1) none _ hz (Or.inl rfl)).mono ?_; rintro e w' ⟨rfl, rfl⟩))
        refine wp_loop_rounds 1 ?_
        rw [rounds_succ]
        go_wp2_with fail
        go_roundw
        case rel => exact ⟨hB, Or.inl ⟨v - 1, by omega, congrArg (Value.int .i64) (by omega), rfl⟩⟩
        case measure => simp [intOf]
    · go_wp2_with fail
      go_ret
      exact ⟨rfl, hB1.trans (hB.mono hB1.size)⟩
end Go.Proofs.Ybulkapdi.K
