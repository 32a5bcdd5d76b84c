import Derived.Test.YbulkapdiKAtom
namespace Go.Proofs.Ybulkapdi.K
open Go.RowKit

def pre8 (x0 x1 x2 x3 x4 x5 x6 x7 : Int) : Int :=
  bits BinOp.or IntKind.u64
    (bits BinOp.or IntKind.u64
      (bits BinOp.or IntKind.u64
        (bits BinOp.or IntKind.u64
          (bits BinOp.or IntKind.u64
            (bits BinOp.or IntKind.u64
              (bits BinOp.or IntKind.u64 (IntKind.u64.wrap (IntKind.u64.wrap x0 * 72057594037927936))
                (IntKind.u64.wrap (IntKind.u64.wrap x1 * 281474976710656)))
              (IntKind.u64.wrap (IntKind.u64.wrap x2 * 1099511627776)))
            (IntKind.u64.wrap (IntKind.u64.wrap x3 * 4294967296)))
          (IntKind.u64.wrap (IntKind.u64.wrap x4 * 16777216)))
        (IntKind.u64.wrap (IntKind.u64.wrap x5 * 65536)))
      (IntKind.u64.wrap (IntKind.u64.wrap x6 * 256)))
    (IntKind.u64.wrap x7)

theorem ret_int {k : IntKind} {a b : Int} (h : a = b) : Ending.returned (.int k a) = .returned (.int k b) := by rw [h]

set_option maxHeartbeats 1000000 in
set_option maxRecDepth 100000 in
theorem pre_long (b n c : Nat) (x0 x1 x2 x3 x4 x5 x6 x7 : Int) (w : World) (h8 : 8 ≤ n) (hn : n ≤ 9223372036854775807) (c0 : w.cell? ⟨b, 0, none⟩ = some (.int .u8 x0)) (c1 : w.cell? ⟨b, 1, none⟩ = some (.int .u8 x1)) (c2 : w.cell? ⟨b, 2, none⟩ = some (.int .u8 x2)) (c3 : w.cell? ⟨b, 3, none⟩ = some (.int .u8 x3))
    (c4 : w.cell? ⟨b, 4, none⟩ = some (.int .u8 x4)) (c5 : w.cell? ⟨b, 5, none⟩ = some (.int .u8 x5)) (c6 : w.cell? ⟨b, 6, none⟩ = some (.int .u8 x6)) (c7 : w.cell? ⟨b, 7, none⟩ = some (.int .u8 x7)) :
    Calls Yba.prog 9 #[.slice (some ⟨b, 0, none⟩) n c] w fun e w' => e = .returned (.int .u64 (pre8 x0 x1 x2 x3 x4 x5 x6 x7)) ∧ Below w.heap.size w w' := by
  have hb := World.block_lt_of_cell? _ _ c0
  have ha := fun (w : World) => run_arrayAt (P := Yba.prog) (w := w) 118 5 8 (some ⟨b, 0, none⟩) n c Yba.underlying118 h8
  go_enter Yba.func9, Yba.ntmps9
  go_wp2_with fail
  go_ret
  exact ⟨rfl, (Below.refl _ _).alloc (Nat.le_refl _) _⟩

set_option maxHeartbeats 1000000 in
set_option maxRecDepth 100000 in
theorem pre_short (b n c : Nat) (x0 x1 x2 x3 x4 x5 x6 x7 : Int) (w : World) (h8 : n < 8) (r : Value)
    (hcp : (Builtin.copy_ #[91, 91] 3 #[.slice (some ⟨w.heap.size, 0, none⟩) 8 8, .slice (some ⟨b, 0, none⟩) n c]).run Yba.prog (w.alloc (.cells #[.int .u8 0, .int .u8 0, .int .u8 0, .int .u8 0, .int .u8 0, .int .u8 0, .int .u8 0, .int .u8 0] 118)) =
      .ok r (w.alloc (.cells #[.int .u8 x0, .int .u8 x1, .int .u8 x2, .int .u8 x3, .int .u8 x4, .int .u8 x5, .int .u8 x6, .int .u8 x7] 118))) :
    Calls Yba.prog 9 #[.slice (some ⟨b, 0, none⟩) n c] w fun e w' => e = .returned (.int .u64 (pre8 x0 x1 x2 x3 x4 x5 x6 x7)) ∧ Below w.heap.size w w' := by
  go_enter Yba.func9, Yba.ntmps9
  go_wp2_with fail
  go_ret
  exact ⟨rfl, (Below.refl _ _).alloc (Nat.le_refl _) _⟩

/-- The first eight bytes of a key, as one number (whatever number that is). -/
def pre (l : List UInt8) : Int :=
  pre8 ((l.getD 0 0).toNat : Int) ((l.getD 1 0).toNat : Int) ((l.getD 2 0).toNat : Int) ((l.getD 3 0).toNat : Int) ((l.getD 4 0).toNat : Int) ((l.getD 5 0).toNat : Int) ((l.getD 6 0).toNat : Int) ((l.getD 7 0).toNat : Int)

theorem size5 : (Yba.prog.info? 5).map (·.size) = some 1 := by kernel_rfl

def by8 (l : List UInt8) : List Value := l.map fun x => Value.int .u8 (x.toNat : Int)

theorem set_short (w : World) (l : List UInt8) (h : l.length < 8) :
    (w.alloc (.cells #[.int .u8 0, .int .u8 0, .int .u8 0, .int .u8 0, .int .u8 0, .int .u8 0, .int .u8 0, .int .u8 0] 118)).setCells w.heap.size 0 (by8 l) =
      w.alloc (.cells #[.int .u8 ((l.getD 0 0).toNat : Int), .int .u8 ((l.getD 1 0).toNat : Int), .int .u8 ((l.getD 2 0).toNat : Int), .int .u8 ((l.getD 3 0).toNat : Int), .int .u8 ((l.getD 4 0).toNat : Int), .int .u8 ((l.getD 5 0).toNat : Int), .int .u8 ((l.getD 6 0).toNat : Int), .int .u8 ((l.getD 7 0).toNat : Int)] 118) := by
  match l, h with
  | [], _ => simp [by8, World.setCells]
  | [a], _ => simp [by8, World.setCells, World.setCell_alloc_at]
  | [a, b], _ => simp [by8, World.setCells, World.setCell_alloc_at]
  | [a, b, c], _ => simp [by8, World.setCells, World.setCell_alloc_at]
  | [a, b, c, d], _ => simp [by8, World.setCells, World.setCell_alloc_at]
  | [a, b, c, d, e], _ => simp [by8, World.setCells, World.setCell_alloc_at]
  | [a, b, c, d, e, f], _ => simp [by8, World.setCells, World.setCell_alloc_at]
  | [a, b, c, d, e, f, g], _ => simp [by8, World.setCells, World.setCell_alloc_at]
  | _ :: _ :: _ :: _ :: _ :: _ :: _ :: _ :: _, h => simp at h; omega

theorem prefix_any (b c : Nat) (l : List UInt8) (w : World) (hl : l.length ≤ 9223372036854775807) (hb : b < w.heap.size) (hc : ∀ j (hj : j < l.length), w.cell? ⟨b, j, none⟩ = some (.int .u8 (l[j].toNat : Int))) :
    Calls Yba.prog 9 #[.slice (some ⟨b, 0, none⟩) l.length c] w fun e w' => e = .returned (.int .u64 (pre l)) ∧ Below w.heap.size w w' := by
  by_cases h8 : 8 ≤ l.length
  · have g : ∀ j, j < 8 → w.cell? ⟨b, j, none⟩ = some (.int .u8 ((l.getD j 0).toNat : Int)) := fun j hj => by
      rw [hc j (by omega)]
      simp [List.getD, List.getElem?_eq_getElem (show j < l.length by omega)]
    exact pre_long b l.length c _ _ _ _ _ _ _ _ w h8 hl (g 0 (by omega)) (g 1 (by omega)) (g 2 (by omega)) (g 3 (by omega)) (g 4 (by omega)) (g 5 (by omega)) (g 6 (by omega)) (g 7 (by omega))
  · refine pre_short b l.length c _ _ _ _ _ _ _ _ w (by omega) (goInt (by8 l).length) ?_
    rw [← set_short w l (by omega)]
    refine run_copy_cells _ 91 91 3 5 w.heap.size 0 8 8 ⟨b, 0, none⟩ l.length c (by8 l) Yba.underlying91 size5 ?_ ?_ ?_ ?_ ?_
    · simp only [by8, List.length_map]
      exact (Nat.min_eq_left (by omega)).symm
    · intro j v hj
      simp only [by8, List.getElem?_map, Option.map_eq_some_iff] at hj
      obtain ⟨x, hx, rfl⟩ := hj
      obtain ⟨hlt, rfl⟩ := List.getElem?_eq_some_iff.1 hx
      rw [show (⟨b, 0, none⟩ : Addr).add j = ⟨b, j, none⟩ from by unfold Addr.add; split <;> simp_all]
      rw [World.cell?_alloc_lt _ _ _ hb]
      exact hc j hlt
    · intro j hj
      simp only [by8, List.length_map] at hj
      have : j < 8 := by omega
      simp [this]
    · intro j hj; simp
    · intro v hv
      simp only [by8, List.mem_map] at hv
      obtain ⟨x, _, rfl⟩ := hv
      rfl

end Go.Proofs.Ybulkapdi.K
