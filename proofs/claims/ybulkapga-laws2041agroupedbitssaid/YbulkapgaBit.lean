import Derived.Test.YbulkapgaGrouped
import Derived.Deep.MidRow
namespace Go.Proofs.Ybulkapga
open Go.RowKit

theorem and_one_u8 (a : Nat) (ha : a < 256) : bits BinOp.and IntKind.u8 (a : Int) 1 = ((a % 2 : Nat) : Int) := by
  have := bits_and_u8 a 1 ha (by decide)
  rw [Nat.and_one_is_mod] at this
  exact this

theorem low_bit (Y r : Nat) (hr : r < 8) : Y % 256 / 2 ^ r % 2 = Y / 2 ^ r % 2 := by
  have e : (256 : Nat) = 2 ^ r * 2 ^ (8 - r) := by
    rw [← Nat.pow_add, show r + (8 - r) = 8 by omega]
  rw [e, Nat.mod_mul_right_div_self]
  apply Nat.mod_mod_of_dvd
  exact Nat.pow_dvd_pow (m := 1) 2 (by omega)

def bitAt (X i : Nat) : Nat := X / 2 ^ i % 2

set_option maxRecDepth 100000 in
set_option maxHeartbeats 1000000 in
theorem bit_any (bw X len m i : Nat) (v : Value) (w0 w : World) (h : WR w0 w bw X len m v) (hn : len - 8 * m < 8) (hi : i < len) (hl : len ≤ 1000) :
    Calls Yba.prog 9 #[.pointer (some ⟨bw, 0, none⟩), .int .u64 i] w fun e w' => e = .returned (.int .u8 (bitAt X i : Int)) ∧ w = w' := by
  have c0 := blk_cell h.blk 0
  have c1 := blk_cell h.blk 1
  generalize hA : X / 2 ^ (8 * m) = A at c1
  replace hA := hide hA
  simp only [List.getElem?_toArray, List.getElem?_cons_zero, List.getElem?_cons_succ] at c0 c1
  have hm := h.hm
  by_cases hlt : i < 8 * m
  · obtain ⟨g, cap, rfl, _, _⟩ := h.own.form (by omega)
    have hby := h.own.cells (g := g) rfl (i / 8) (.int .u8 ((X / 2 ^ (8 * (i / 8)) % 256 : Nat) : Int)) (by simp only [byts, List.getElem?_map, List.getElem?_range (show i / 8 < m by omega), Option.map_some])
    rw [show ((⟨g, 0, none⟩ : Addr).add (i / 8)) = ⟨g, i / 8, none⟩ by rw [Addr.add_mid, Nat.zero_add]] at hby
    generalize hB : X / 2 ^ (8 * (i / 8)) % 256 = B at hby
    have hB256 : B < 256 := by omega
    replace hB := hide hB
    have t1 : (i : Int) < 8 * (m : Int) := by omega
    go_enter Yba.func9, Yba.ntmps9
    go_wp2_with fail
    have e1 : ((B : Int) / 2 ^ (i % 8)) = ((B / 2 ^ (i % 8) : Nat) : Int) := by simp
    have e2 : bits BinOp.and IntKind.u8 ((B : Int) / 2 ^ (i % 8)) 1 = (bitAt X i : Int) := by
      rw [e1, and_one_u8 _ (Nat.lt_of_le_of_lt (Nat.div_le_self _ _) hB256), ← hB.out, low_bit _ _ (by omega), div_div_pow, show 8 * (i / 8) + i % 8 = i by omega]
      rfl
    rw [e2]
    go_ret
    exact ⟨rfl, rfl⟩
  · have t1 : ¬ (i : Int) < 8 * (m : Int) := by omega
    obtain ⟨p, cap, rfl⟩ : ∃ p cap, v = .slice p m cap := by
      rcases h.own.2 with ⟨e1, e2⟩ | ⟨g, cap, cur, e1, _⟩
      · exact ⟨none, 0, by rw [e2]; exact e1⟩
      · exact ⟨_, cap, e1⟩
    go_enter Yba.func9, Yba.ntmps9
    go_wp2_with fail
    have e1 : ((A : Int) / 2 ^ (i - 8 * m) % 256) = ((A / 2 ^ (i - 8 * m) % 256 : Nat) : Int) := by simp
    have e2 : bits BinOp.and IntKind.u8 ((A : Int) / 2 ^ (i - 8 * m) % 256) 1 = (bitAt X i : Int) := by
      rw [e1, and_one_u8 _ (by omega), ← hA.out, div_div_pow, show 8 * m + (i - 8 * m) = i by omega, bitAt]
      congr 1
      omega
    rw [e2]
    go_ret
    exact ⟨rfl, rfl⟩

end Go.Proofs.Ybulkapga
