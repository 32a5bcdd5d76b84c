import Derived.Test.YbulkapdiKParts
import Derived.Deep.DeepCutAuto
import Derived.Deep.CutBlock
import Derived.Laws.AppendOwnNone
import Derived.LaidEqlPtr
namespace Go.Proofs.Ybulkapdi.K
open Go.RowKit

set_option maxRecDepth 100000 in
set_option maxHeartbeats 2000000 in
theorem law_long (sel last : Int) (ka pa ra : Option Addr) (kn kc pn pc rn rc : Nat) (w : World) (h : 256 < kn ∨ 256 < pn ∨ 256 < rn) :
    Calls Yba.prog 4 #[.slice ka kn kc, .int .u8 sel, .int .u64 last, .slice pa pn pc, .slice ra rn rc] w fun e w' => e = .returned (.bool true) ∧ Below w.heap.size w w' := by
  by_cases h1 : 256 < kn
  · go_enter Yba.func4, Yba.ntmps4
    go_wp2_with fail
    go_ret
    exact ⟨rfl, Below.refl _ _⟩
  · by_cases h2 : 256 < pn
    · go_enter Yba.func4, Yba.ntmps4
      go_wp2_with fail
      go_ret
      exact ⟨rfl, Below.refl _ _⟩
    · have h3 : 256 < rn := by omega
      go_enter Yba.func4, Yba.ntmps4
      go_wp2_with fail
      go_ret
      exact ⟨rfl, Below.refl _ _⟩

/-- A slice of 64-bit numbers that came in. -/
def IsR (w : World) (a : Option Addr) (n c : Nat) (zs : List Int) : Prop :=
  zs.length = n ∧ ((a = none ∧ n = 0 ∧ c = 0) ∨ ∃ x, a = some x ∧ ∀ (i : Nat) (z : Int), zs[i]? = some z → w.cell? (x.add i) = some (.int .u64 z))

theorem info41 : (Yba.prog.info? 41).map (fun i => (i.zero, i.size, i.bytes)) = some (some (.int .u64 0), 1, 8) := by kernel_rfl

theorem below_of_grown {w w' : World} (h : w.grownBy w' none) : Below w.heap.size w w' := ⟨h.os, h.tape, h.output, h.size, fun k hk => h.block k hk (by simp)⟩

theorem own_form {w : World} {base : Nat} {e : TypeId} {size : Nat} {v : Value} {n : Nat} {xs : List Value} (h : w.ownsRow base e size v n xs) : ∃ va vc, v = .slice va n vc := by
  rcases h.2 with ⟨e, e2⟩ | ⟨g, cap, cur, e, _⟩
  · exact ⟨none, 0, by rw [e, e2]⟩
  · exact ⟨_, cap, e⟩

theorem info92 : (Yba.prog.info? 92).map (fun i => (i.zero, i.size, i.bytes)) = some (some (.pointer none), 1, 8) := by kernel_rfl

set_option maxRecDepth 100000 in
set_option maxHeartbeats 2000000 in
theorem law_walk (sel : Nat) (last : Int) (ka pa ra : Option Addr) (kc pc rc pn rn : Nat) (ss : List ByteArray) (w : World) (h1 : ss.length ≤ 256) (h2 : pn ≤ 256) (h3 : rn ≤ 256) (hsel : sel ≤ 255) (zp zr : List Int) (hp : IsR w pa pn pc zp) (hr : IsR w ra rn rc zr) (hsz : ∀ s ∈ ss, s.size ≤ 9223372036854775807)
    (hcell : ss = [] ∨ ∃ b off, ka = some ⟨b, off, none⟩ ∧ ∀ (i : Nat) (s : ByteArray), ss[i]? = some s → w.cell? ⟨b, off + i, none⟩ = some (.string s)) :
    Calls Yba.prog 4 #[.slice ka ss.length kc, .int .u8 sel, .int .u64 last, .slice pa pn pc, .slice ra rn rc] w fun e w' => e = .returned (.bool true) ∧ Below w.heap.size w w' := by
  have d1 : decide ((256 : Int) < (ss.length : Int)) = false := decide_eq_false (by omega)
  have d2 : decide ((256 : Int) < (pn : Int)) = false := decide_eq_false (by omega)
  have d3 : decide ((256 : Int) < (rn : Int)) = false := decide_eq_false (by omega)
  go_enter Yba.func4, Yba.ntmps4
  go_wp2_with (first | (go_at_call 7; refine (newIdx_any _).mono ?_; rintro e w1 ⟨rfl, hI1, hB1⟩))
  have hS0 : ST w ((w1.alloc (.cells (Yba.zeroCells89.setIfInBounds 0 (.pointer (some ⟨w.heap.size, 0, none⟩))) 89)).alloc (.cells #[] 92)) w1.heap.size w.heap.size (w.heap.size + 1) [] [] (.slice (some ⟨w1.heap.size + 1, 0, none⟩) 0 0) := by
    have hB2 : Below w1.heap.size w1 ((w1.alloc (.cells (Yba.zeroCells89.setIfInBounds 0 (.pointer (some ⟨w.heap.size, 0, none⟩))) 89)).alloc (.cells #[] 92)) := ((Below.refl _ _).alloc (Nat.le_refl _) _).alloc (by simp) _
    refine ⟨hI1.below hB2, Srt.nil, fun m => Iff.rfl, rfl, ?_, ⟨_, by rw [Below.heap_alloc _ _ _ (by simp), heap_alloc_new], by rfl⟩, ⟨Nat.le_refl _, by simp⟩, hB1.trans (hB2.mono hB1.size)⟩
    have := World.ownsRow_lit (base := w.heap.size) (e := 92) (size := 1) (w1.alloc (.cells (Yba.zeroCells89.setIfInBounds 0 (.pointer (some ⟨w.heap.size, 0, none⟩))) 89)) #[] 0 (by have := hB1.size; simp; omega) (by decide) rfl
    simpa [ptrs] using this
  generalize (w1.alloc (.cells (Yba.zeroCells89.setIfInBounds 0 (.pointer (some ⟨w.heap.size, 0, none⟩))) 89)).alloc (.cells #[] 92) = w2 at hS0 ⊢
  generalize w1.heap.size = bs at hS0 ⊢
  clear hI1 hB1
  go_loopw [12, 46] (fun v i wr => ∃ (k : Nat) (L N : List KN), k ≤ ss.length ∧ i = .int .i64 k ∧ N.length ≤ k ∧ ST w wr bs w.heap.size (w.heap.size + 1) L N v) (fun _ i _ => ss.length - (intOf i).toNat)
  case atStart => exact ⟨0, [], [], by omega, rfl, by simp, hS0⟩
  case round =>
    clear hS0
    obtain ⟨k, L, N, hk, rfl, hNk, hS⟩ := hrel
    by_cases hlt : k < ss.length
    · obtain ⟨s, hs⟩ : ∃ s, ss[k]? = some s := ⟨_, List.getElem?_eq_getElem hlt⟩
      obtain ⟨b, off, rfl, hcs⟩ := hcell.resolve_left (fun e0 => by rw [e0] at hlt; simp at hlt)
      have hc := hcs k s hs
      have c0 := (hS.below.cell (World.block_lt_of_cell? _ _ hc)).trans hc
      have hss := hsz s (List.mem_of_getElem? hs)
      have hcv := run_bytes_of_string (P := Yba.prog) wr 9 91 5 s Yba.underlying9 Yba.underlying91 Yba.underlying5
      rw [World.alloc_drew] at hcv
      have hB2 : Below wr.heap.size wr (wr.alloc (.cells (bytesRow s (grownCap wr s.size 0 5)) 5 ((bytesRow s (grownCap wr s.size 0 5)).size, (bytesRow s (grownCap wr s.size 0 5)).size + 1))).drew := ((Below.refl _ _).alloc (Nat.le_refl _) _).drew
      have hK2 : KB (wr.alloc (.cells (bytesRow s (grownCap wr s.size 0 5)) 5 ((bytesRow s (grownCap wr s.size 0 5)).size, (bytesRow s (grownCap wr s.size 0 5)).size + 1))).drew wr.heap.size s.data.toList := by
        refine ⟨by simp, by simpa using hss, fun j hj => ?_, ⟨_, _, heap_alloc_new wr _⟩⟩
        rw [World.cell?_drew, World.cell?_alloc_mark, bytesRow_at s _ j (by simpa using hj)]
        simp
      have HC := hide hcell
      have HSZ := hide hsz
      clear hcs hc hs hcell hsz
      generalize hw2 : (wr.alloc (.cells (bytesRow s (grownCap wr s.size 0 5)) 5 ((bytesRow s (grownCap wr s.size 0 5)).size, (bytesRow s (grownCap wr s.size 0 5)).size + 1))).drew = w2 at hcv hB2 hK2
      generalize grownCap wr s.size 0 5 = cp at hcv
      generalize hl : s.data.toList = l at hK2
      have el : s.size = l.length := by show s.data.size = _; rw [← hl, Array.length_toList]
      rw [el] at hcv
      have HW := hide hw2
      have HL := hide hl
      have HEL := hide el
      clear hw2 hl el
      have hS2 := hS.later hB2
      go_wp2_with fail
      refine (find_any bs w.heap.size (w.heap.size + 1) wr.heap.size cp l L w2 hS2.il hK2 hS2.cell).mono ?_
      rintro e w3 ⟨rfl, hB3⟩
      have hS3 := hS2.later hB3
      have hK3 := hK2.below hB3
      cases hf : found L l with
      | some a =>
        go_wp2_with fail
        go_roundw
        case rel => exact ⟨k + 1, L, N, by omega, by go_num, by omega, hS3⟩
        case measure => simp [intOf]; omega
      | none =>
        have hnew : ∀ m ∈ L, m.l ≠ l := fun m hm e => by
          have := found_mem hS.srt hm
          rw [e, hf] at this; cases this
        clear hf
        go_wp2_with fail
        refine (prefix_any wr.heap.size cp l w3 hK3.len hK3.lt hK3.cell).mono ?_
        rintro e w4 ⟨rfl, hB4⟩
        have hS4 := hS3.later hB4
        have hK4 := hK3.below hB4
        have hB5 : Below w4.heap.size w4 (w4.alloc (.cells #[.pointer none, .bool true, .bool false, .bool false, .int .u64 (pre l), .pointer none, .slice (some ⟨wr.heap.size, 0, none⟩) l.length cp, .slice none 0 0] 106)) := (Below.refl _ _).alloc (Nat.le_refl _) _
        have hS5 := hS4.later hB5
        have hK5 := hK4.below hB5
        have c5 := hS5.cell
        have hn5 : (w4.alloc (.cells #[.pointer none, .bool true, .bool false, .bool false, .int .u64 (pre l), .pointer none, .slice (some ⟨wr.heap.size, 0, none⟩) l.length cp, .slice none 0 0] 106)).heap[w4.heap.size]? = some (.cells (nodeCells ⟨w4.heap.size, l, wr.heap.size, cp⟩ true false none) 106 (0, 0)) := heap_alloc_new _ _
        have hz5 : w.heap.size ≤ w4.heap.size := hS4.below.size
        have HN5 := hide hn5
        clear hn5
        go_wp2_with fail
        generalize w4.alloc (.cells #[.pointer none, .bool true, .bool false, .bool false, .int .u64 (pre l), .pointer none, .slice (some ⟨wr.heap.size, 0, none⟩) l.length cp, .slice none 0 0] 106) = w5 at hS5 hK5 c5 HN5 hB5 ⊢
        refine (link_any w.heap.size w.heap.size (w.heap.size + 1) L ⟨w4.heap.size, l, wr.heap.size, cp⟩ w5 hS5.il (unhide HN5) hK5 hS5.lo hz5 (by have := hS5.below.size; omega)).mono ?_
        rintro e w6 ⟨rfl, hI6, hF6, hB6⟩
        obtain ⟨t1, t2, t3, t4, t5, t6, t7, t8⟩ := hS5.linked (n := ⟨w4.heap.size, l, wr.heap.size, cp⟩) hI6 hF6 hB6 hnew hz5
        obtain ⟨i0, hi, hz0, hz1, hz2⟩ := info_parts info92
        generalize w4.heap.size = gN at *
        go_wp2_with (first | (at_builtin; refine wpList_append_own _ rfl _ _ 90 rfl w.heap.size 92 i0 (.pointer none) 1 8 Yba.underlying90 hi hz0 hz1 hz2 rfl (by decide) _ _ _ rfl (t5.alloc _) ⟨w6.heap.size, 0, none⟩ 1 1 [.pointer (some ⟨gN, 0, none⟩)] rfl rfl ?c1 ?c2 ?c3 ?c4 ?c5 ?_))
        case c1 => exact cell_one_new _ _ _
        case c2 => intro u hu; simp at hu; subst hu; rfl
        case c3 => unfold maxLen; omega
        case c4 => omega
        case c5 => have := t8.size; simp; omega
        intro v' w8 hown8 hgrow8 _
        have hty := own_ty (t5.alloc (.cells #[.pointer (some ⟨gN, 0, none⟩)] 92))
        have hBa : Below w6.heap.size w6 (w6.alloc (.cells #[.pointer (some ⟨gN, 0, none⟩)] 92)) := (Below.refl _ _).alloc (Nat.le_refl _) _
        have hS8 : ST w w8 bs w.heap.size (w.heap.size + 1) (ins L (pos L l) ⟨gN, l, wr.heap.size, cp⟩) (N ++ [⟨gN, l, wr.heap.size, cp⟩]) v' := by
          refine ⟨(t1.below hBa).grown hgrow8 hty (by decide), t2, t3, t4, by simpa [ptrs] using hown8, ?_, t7, (t8.trans (hBa.mono t8.size)).grown hgrow8 (by have := t8.size; simp; omega) (fun g hg => (t5.lt g hg).1)⟩
          obtain ⟨cs, e1, e2⟩ := t6
          exact ⟨cs, blk_grown hgrow8 hty (blk_below hBa e1) (by decide), e2⟩
        clear hown8 hgrow8 hty hBa t1 t2 t3 t4 t5 t6 t7 t8
        go_wp2_with fail
        go_roundw
        case rel => exact ⟨k + 1, _, _, by omega, by go_num, by simp; omega, hS8⟩
        case measure => simp [intOf]; omega
    · obtain ⟨va, vc, hv⟩ : ∃ va vc, u12 = .slice va N.length vc := by
        rcases hS.own.2 with ⟨e, e2⟩ | ⟨g, cap, cur, e, _⟩
        · exact ⟨none, 0, by rw [e, e2]⟩
        · exact ⟨_, cap, e⟩
      subst hv
      clear hcell hsz
      by_cases hN0 : N.length = 0
      · have hb0 : ((N.length : Int) == 0) = true := beq_iff_eq.2 (by omega)
        clear hN0
        go_wp2_with fail
        go_ret
        exact ⟨rfl, hS.below⟩
      · have hb0 : ((N.length : Int) == 0) = false := beq_eq_false_iff_ne.2 (by omega)
        have hNp : 0 < N.length := by omega
        obtain ⟨gv, rfl⟩ : ∃ gv, va = some ⟨gv, 0, none⟩ := by
          rcases hS.own.2 with ⟨e, e2⟩ | ⟨g, cap, cur, e, _⟩
          · omega
          · exact ⟨g, by simp at e; exact e.1⟩
        obtain ⟨t, ht⟩ : ∃ t, t = sel % N.length := ⟨_, rfl⟩
        have et : ((sel : Int) % (N.length : Int)) = (t : Int) := by rw [ht]; simp
        have htl : t < N.length := by rw [ht]; exact Nat.mod_lt _ hNp
        obtain ⟨n, hn⟩ : ∃ n, N[t]? = some n := ⟨_, List.getElem?_eq_getElem htl⟩
        have ct : wr.cell? ⟨gv, t, none⟩ = some (.pointer (some ⟨n.g, 0, none⟩)) := by
          have := World.ownsRow.cellAt hS.own t (by omega)
          rw [this]; simp [ptrs, hn]
        have HNn := hide hn
        clear ht hN0 hn
        go_upto_region 17 with fail
        clear ct et
        go_cut [18] (fun v wx => wx.ownsRow w.heap.size 41 1 v rn (zr.map (Value.int .u64)) ∧ Below wr.heap.size wr wx)
        case first =>
          obtain ⟨i0, hi, hz0, hz1, hz2⟩ := info_parts info41
          obtain ⟨hrl, hrc⟩ := hr
          rcases hrc with ⟨rfl, rfl, rfl⟩ | ⟨x, rfl, hrx⟩
          · go_wp2_with (first | (at_builtin; refine wpList_append_own_none rfl _ _ 42 rfl w.heap.size 41 i0 1 Yba.underlying42 hi (.slice none 0 0) 0 [] rfl (World.ownsRow_nil _ _ _ _) rfl ?_))
            go_meet
            have : zr = [] := List.length_eq_zero_iff.1 hrl
            subst this
            exact ⟨World.ownsRow_nil _ _ _ _, Below.refl _ _⟩
          · go_wp2_with (first | (at_builtin; refine wpList_append_own _ rfl _ _ 42 rfl w.heap.size 41 i0 (.int .u64 0) 1 8 Yba.underlying42 hi hz0 hz1 hz2 rfl (by decide) _ _ _ rfl (World.ownsRow_nil _ _ _ _) x rn rc (zr.map (Value.int .u64)) rfl ?c0 ?c1 ?c2 ?c3 ?c4 ?c5 ?_))
            case c0 => simp [hrl]
            case c1 =>
              intro j u hu
              simp only [List.getElem?_map, Option.map_eq_some_iff] at hu
              obtain ⟨z, hz, rfl⟩ := hu
              have := hrx j z hz
              exact (hS.below.cell (World.block_lt_of_cell? _ _ this)).trans this
            case c2 => intro u hu; simp only [List.mem_map] at hu; obtain ⟨z, _, rfl⟩ := hu; rfl
            case c3 => unfold maxLen; omega
            case c4 => omega
            case c5 => exact hS.below.size
            intro v' w8 hown8 hgrow8 _
            go_wp2_with fail
            go_meet
            exact ⟨by simpa using hown8, below_of_grown hgrow8⟩
        case rest =>
          obtain ⟨hown1, hB1⟩ := hcut
          obtain ⟨va1, vc1, hv1⟩ := own_form hown1
          have hS1 := hS.later hB1
          subst hv1
          generalize wc = w3 at hown1 hB1 hS1 ⊢
          clear hS hB1
          go_upto_region 18 with fail
          go_cut [19] (fun v wx => (∃ a1 n1 c1, v = .slice a1 n1 c1) ∧ Below w3.heap.size w3 wx)
          case first =>
            obtain ⟨i0, hi, hz0, hz1, hz2⟩ := info_parts info41
            obtain ⟨hpl, hpc⟩ := hp
            rcases hpc with ⟨rfl, rfl, rfl⟩ | ⟨x, rfl, hpx⟩
            · go_wp2_with (first | (at_builtin; refine wpList_append_own_none rfl _ _ 42 rfl w.heap.size 41 i0 1 Yba.underlying42 hi (.slice none 0 0) 0 [] rfl (World.ownsRow_nil _ _ _ _) rfl ?_))
              go_meet
              exact ⟨⟨_, _, _, rfl⟩, Below.refl _ _⟩
            · go_wp2_with (first | (at_builtin; refine wpList_append_own _ rfl _ _ 42 rfl w.heap.size 41 i0 (.int .u64 0) 1 8 Yba.underlying42 hi hz0 hz1 hz2 rfl (by decide) _ _ _ rfl (World.ownsRow_nil _ _ _ _) x pn pc (zp.map (Value.int .u64)) rfl ?c0 ?c1 ?c2 ?c3 ?c4 ?c5 ?_))
              case c0 => simp [hpl]
              case c1 =>
                intro j u hu
                simp only [List.getElem?_map, Option.map_eq_some_iff] at hu
                obtain ⟨z, hz, rfl⟩ := hu
                have := hpx j z hz
                exact (hS1.below.cell (World.block_lt_of_cell? _ _ this)).trans this
              case c2 => intro u hu; simp only [List.mem_map] at hu; obtain ⟨z, _, rfl⟩ := hu; rfl
              case c3 => unfold maxLen; omega
              case c4 => omega
              case c5 => exact hS1.below.size
              intro v' w8 hown8 hgrow8 _
              obtain ⟨va8, vc8, hv8⟩ := own_form hown8
              have HB8 := hide (below_of_grown hgrow8)
              clear hown8 hgrow8
              go_wp2_with fail
              go_meet
              exact ⟨⟨_, _, _, hv8⟩, unhide HB8⟩
          case rest =>
            obtain ⟨⟨a1, n1, c1, rfl⟩, hB2⟩ := hcut
            have hS2 := hS1.later hB2
            have hown2 := own_below hB2 hown1
            generalize wc = w4 at hown2 hB2 hS2 ⊢
            clear hS1 hown1 hB2
            obtain ⟨j106, hj106, hj0⟩ := info106
            have HJ := hide hj106
            have HJ0 := hide hj0
            clear hj106 hj0
            go_wp2_with fail
            have hnL : n ∈ L := (hS2.mem n).1 (List.mem_of_getElem? (unhide HNn))
            obtain ⟨i, hi⟩ := List.getElem?_of_mem hnL
            refine (pruneKey_any w.heap.size bs w.heap.size (w.heap.size + 1) i L n last a1 va1 n1 c1 rn vc1 w4 hS2.il hi (pos_mem hS2.srt hi) hS2.lo hS2.below.size hS2.cell).mono ?_
            rintro e w5 ⟨rfl, hI5, hnb, hF5, hB5, hkb⟩
            have hB5' := hS2.below.trans hB5
            have hown5 := own_kfr hF5 hS2.own (by decide) (by decide)
            have hin5 := own_kfr hF5 hown2 (by decide) (by decide)
            have hst5 : w5.cell? ⟨bs, 0, none⟩ = some (.pointer (some ⟨w.heap.size, 0, none⟩)) := by
              obtain ⟨cs, e1, e2⟩ := hS2.st
              rw [blk_cell (hF5.block bs cs 89 (0, 0) e1 (by decide) (by decide))]; exact e2
            have hsrt := hS2.srt.erase i
            have hnone : found (L.eraseIdx i) n.l = none := found_none (erase_keys hS2.srt hi)
            have hoth : ∀ m ∈ N, m.g ≠ n.g → m ∈ L.eraseIdx i := fun m hm hne => mem_erase hi ((hS2.mem m).1 hm) hne
            have hlenE : (L.eraseIdx i).length = N.length - 1 := by
              rw [List.length_eraseIdx, if_pos (List.getElem?_eq_some_iff.1 hi).1, hS2.len]
            have HO := hide hoth
            have HNO := hide hnone
            have HLE := hide hlenE
            have HS := hide hsrt
            generalize hE : L.eraseIdx i = E at hI5 HO HNO HLE HS
            clear hS2 hown2 hF5 hB5 hoth hnone hlenE hsrt hE hi
            go_wp2_with fail
            go_loopw [22] (fun i wx => ∃ k q : Nat, k ≤ rn ∧ i = .int .i64 k ∧ wx = w5.drewN q) (fun i _ => rn - (intOf i).toNat)
            case atStart => exact ⟨0, 0, by omega, rfl, rfl⟩
            case round =>
              obtain ⟨k2, q, hk2, rfl, rfl⟩ := hrel
              by_cases hkr : k2 < rn
              · obtain ⟨hrl, hrc⟩ := hr
                obtain ⟨z, hz⟩ : ∃ z, zr[k2]? = some z := ⟨_, List.getElem?_eq_getElem (by omega)⟩
                obtain ⟨x, rfl, hrx⟩ := hrc.resolve_left (by omega)
                have hxz := hrx k2 z hz
                obtain ⟨xb, xo, xs⟩ := x
                have hspot : xs = none := by
                  obtain ⟨z0, hz0⟩ : ∃ z0, zr[0]? = some z0 := ⟨_, List.getElem?_eq_getElem (by omega)⟩
                  simpa [Addr.add] using World.cell?_spot (hrx 0 z0 hz0)
                subst hspot
                rw [WideShapes.add_plain] at hxz
                have d1' := (hB5'.cell (World.block_lt_of_cell? _ _ hxz)).trans hxz
                obtain ⟨gi, rfl⟩ : ∃ gi, va1 = some ⟨gi, 0, none⟩ := by
                  rcases hin5.2 with ⟨e, e2⟩ | ⟨g, cap, cur, e, _⟩
                  · omega
                  · exact ⟨g, by simp at e; exact e.1⟩
                have d2' : w5.cell? ⟨gi, k2, none⟩ = some (.int .u64 z) := by
                  rw [World.ownsRow.cellAt hin5 k2 (by omega)]; simp [hz]
                clear hrx hrc hrl hz hxz
                go_wp2_with fail
                go_quiet (fail)
                go_wp2_with fail
                go_roundw
                case rel => exact ⟨k2 + 1, _, by omega, by go_num, rfl⟩
                case measure => simp [intOf]; omega
              · have cr : w5.cell? ⟨n.g, 2, none⟩ = some (.bool true) := by rw [blk_cell hnb]; rfl
                have ck : w5.cell? ⟨n.g, 6, none⟩ = some (.slice (some ⟨n.kb, 0, none⟩) n.l.length n.kc) := by rw [blk_cell hnb]; rfl
                have hBq : Below w5.heap.size w5 (w5.drewN q) := ⟨rfl, rfl, rfl, Nat.le_refl _, fun _ _ => rfl⟩
                go_wp2_with fail
                refine (find_any bs w.heap.size (w.heap.size + 1) n.kb n.kc n.l E _ (hI5.below hBq) (hkb.below hBq) (cell_below hBq hst5)).mono ?_
                rintro e w6 ⟨rfl, hB6⟩
                rw [unhide HNO]
                have hB6' : Below w5.heap.size w5 w6 := ⟨hB6.os, hB6.tape, hB6.output, hB6.size, hB6.block⟩
                clear hB6 hBq cr ck
                go_wp2_with fail
                go_loopw [131] (fun i wx => ∃ k : Nat, k ≤ N.length ∧ i = .int .i64 k ∧ Below w5.heap.size w5 wx) (fun i _ => N.length - (intOf i).toNat)
                case atStart => exact ⟨0, by omega, rfl, hB6'⟩
                case round =>
                  clear hB6'
                  obtain ⟨k3, hk3, rfl, hB7⟩ := hrel
                  by_cases hkN : k3 < N.length
                  · obtain ⟨m, hm⟩ : ∃ m, N[k3]? = some m := ⟨_, List.getElem?_eq_getElem hkN⟩
                    have hmN := List.mem_of_getElem? hm
                    have cm : wr.cell? ⟨gv, k3, none⟩ = some (.pointer (some ⟨m.g, 0, none⟩)) := by
                      rw [World.ownsRow.cellAt (own_below hB7 hown5) k3 (by omega)]; simp [ptrs, hm]
                    have HM := hide hm
                    clear hm
                    by_cases hg : m.g = n.g
                    · rw [hg] at cm
                      have heq := run_eql_ptr_same (P := Yba.prog) (w := wr) (tp := 92) (te := 106) (⟨n.g, 0, none⟩ : Addr) Yba.underlying92 (unhide HJ)
                      go_wp2_with fail
                      go_roundw
                      case rel => exact ⟨k3 + 1, by omega, by go_num, hB7⟩
                      case measure => simp [intOf]; omega
                    · have hmE := (unhide HO) m hmN hg
                      obtain ⟨jm, hjm⟩ := List.getElem?_of_mem hmE
                      have hI7 := hI5.below hB7
                      have hmb := hI7.node jm m hjm
                      have hnb7 := blk_below hB7 hnb
                      have heq := run_eql_ptr_other (P := Yba.prog) (w := wr) (tp := 92) (te := 106) (a := (⟨m.g, 0, none⟩ : Addr)) (b := (⟨n.g, 0, none⟩ : Addr)) Yba.underlying92 (unhide HJ) (unhide HJ0) (fun e => hg (congrArg Addr.block e)) hmb hnb7
                      have ck : wr.cell? ⟨m.g, 6, none⟩ = some (.slice (some ⟨m.kb, 0, none⟩) m.l.length m.kc) := by rw [blk_cell hmb]; rfl
                      have hfm := found_mem (unhide HS) hmE
                      have HFM := hide hfm
                      have hneq := fun (w : World) => Lib.run_neq_ptr_same (P := Yba.prog) (w := w) (tp := 92) (te := 106) (⟨m.g, 0, none⟩ : Addr) Yba.underlying92 (unhide HJ)
                      clear hjm hmb hnb7 hfm
                      go_wp2_with fail
                      refine (find_any bs w.heap.size (w.heap.size + 1) m.kb m.kc m.l E _ hI7 (hI7.key m hmE) (cell_below hB7 hst5)).mono ?_
                      rintro e w8 ⟨rfl, hB8⟩
                      rw [unhide HFM]
                      clear heq ck cm
                      go_wp2_with fail
                      go_roundw
                      case rel => exact ⟨k3 + 1, by omega, by go_num, hB7.trans (hB8.mono hB7.size)⟩
                      case measure => simp [intOf]; omega
                  · have hI7 := hI5.below hB7
                    have hst7 := cell_below hB7 hst5
                    have n0 : wr.cell? ⟨w.heap.size, 5, none⟩ = some (.pointer (nxt (E.drop 0))) := hI7.next 0 (by omega)
                    have p0 := hI7.np 0
                    go_wp2_with (first | (go_at_call 12; refine (load_any w.heap.size 5 _ _ n0 p0).mono ?_; rintro e w' ⟨rfl, rfl⟩))
                    clear n0 p0 hst7
                    go_loopg [25, 26] E.length (fun gk c x wx => ∃ i : Nat, gk = E.length - i ∧ i ≤ E.length ∧ c = .int .i64 i ∧ x = .pointer (nxt (E.drop i)) ∧ wx = wr)
                    case atStart => exact ⟨0, by omega, by omega, rfl, rfl, rfl⟩
                    case round =>
                      obtain ⟨i, hgk, hi, rfl, rfl, rfl⟩ := hrel
                      have HGK := hide hgk
                      clear hgk
                      have hle := unhide HLE
                      by_cases hiE : i < E.length
                      · obtain ⟨m, hm⟩ : ∃ m, E[i]? = some m := ⟨_, List.getElem?_eq_getElem hiE⟩
                        have en := nxt_drop_some hm
                        have n1 := hI7.next (i + 1) hiE
                        rw [show blockAt w.heap.size E (i + 1) = m.g from by simp [blockAt, hm]] at n1
                        have p1 := hI7.np (i + 1)
                        rw [en]
                        clear hm en
                        have hle2 : (i : Int) ≤ (N.length : Int) := by omega
                        go_wp2_with (first | (go_at_call 12; refine (load_any m.g 5 _ _ n1 p1).mono ?_; rintro e w' ⟨rfl, rfl⟩))
                        go_roundg (E.length - (i + 1))
                        case measure => have := unhide HGK; omega
                        case rel => exact ⟨i + 1, rfl, by omega, by go_num, rfl, rfl⟩
                      · have en : nxt (E.drop i) = none := by rw [List.drop_of_length_le (by omega)]; rfl
                        rw [en]
                        have hfin : ((i : Int) == (N.length : Int) - 1) = true := beq_iff_eq.2 (by omega)
                        clear en
                        go_wp2_with fail
                        go_ret
                        exact ⟨rfl, hB5'.trans (hB7.mono hB5'.size)⟩
end Go.Proofs.Ybulkapdi.K
