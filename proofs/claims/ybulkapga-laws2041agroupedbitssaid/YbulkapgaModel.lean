import Derived.Test.YbulkapgaBit
import Derived.Laws.AppendOwn
namespace Go.Proofs.Ybulkapga
open Go.RowKit

/-- The model's memory: the bits of s, one a cell. -/
structure MS (w0 w : World) (v : Value) (s : Nat × Nat) : Prop where
  own : w.ownsRow w0.heap.size 5 1 v s.2 (bitsOf s.1 s.2)
  lt : s.1 < 2 ^ s.2
  below : Below w0.heap.size w0 w

theorem bitAt_lt (X i : Nat) : bitAt X i < 2 := Nat.mod_lt _ (by decide)

theorem MS.push {w0 w w' : World} {v v' : Value} {s : Nat × Nat} (h : MS w0 w v s) (b : Nat) (hb : b < 2) (o : Obj) (hg : (w.alloc o).grownBy w' v.ownBlock)
    (ho : w'.ownsRow w0.heap.size 5 1 v' (s.2 + 1) (bitsOf s.1 s.2 ++ [.int .u8 (b : Int)])) : MS w0 w' v' (put s b 1) := by
  refine ⟨?_, lt_far s.1 b s.2 1 h.lt (by simpa using hb), ?_⟩
  · show w'.ownsRow w0.heap.size 5 1 v' (s.2 + 1) (bitsOf (s.1 + b * 2 ^ s.2) (s.2 + 1))
    rw [bitsOf_put _ _ _ h.lt hb]
    exact ho
  · exact (h.below.alloc h.below.size o).grown hg (by have := h.below.size; simp; omega) (fun k hk => (h.own.lt k hk).1)

theorem put_bit (s : Nat × Nat) (x i : Nat) : put (put s (x % 2 ^ i) i) (bitAt x i) 1 = put s (x % 2 ^ (i + 1)) (i + 1) := by
  unfold put bitAt
  dsimp only
  rw [Nat.mod_pow_succ, Nat.add_mul, Nat.pow_add, Nat.add_assoc, Nat.add_assoc]
  congr 2
  rw [Nat.mul_comm (2 ^ i), Nat.mul_assoc, Nat.mul_comm (2 ^ i)]

theorem shr_and (x i : Nat) (hx : x < 18446744073709551616) : bits BinOp.and IntKind.u64 ((x : Int) / 2 ^ i) 1 = (bitAt x i : Int) := by
  have e : ((x : Int) / 2 ^ i) = ((x / 2 ^ i : Nat) : Int) := by simp
  have := bits_and_u64 (x / 2 ^ i) 1 (Nat.lt_of_le_of_lt (Nat.div_le_self _ _) hx) (by decide)
  rw [Nat.and_one_is_mod] at this
  rw [e]; exact this
theorem wrap_bit (x i : Nat) : IntKind.u8.wrap (bitAt x i : Int) = (bitAt x i : Int) := by
  have := bitAt_lt x i
  rw [IntKind.wrap_u8]; omega

/-- want = append(want, bit). -/
theorem wpList_push {ops : Array Oper} {rest : List Oper} {o : Oper} {a : Act} {w0 w : World} {Q : Exit → Act → World → Prop} (hgd : o.guard = none) (s x : Operand)
    (ho : o.op = .call { callee := .builtin .append, args := #[s, x], argTypes := #[25, 25] }) {v : Value} (t : Nat × Nat) (h : MS w0 w v t) (b : Nat) (bi : Int) (hbi : bi = (b : Int)) (hb : b < 2)
    (hs : a.eval s = v) (hx : a.eval x = .slice (some ⟨w.heap.size, 0, none⟩) 1 1) (hl : t.2 ≤ 1000)
    (K : ∀ v' w', MS w0 w' v' (put t b 1) → wpList Yba.prog ops Q rest (a.put o.dst v') w') : wpList Yba.prog ops Q (o :: rest) a (w.alloc (.cells #[.int .u8 bi] 5)) := by
  subst hbi
  obtain ⟨i0, hi, hz0, hz1, hz2⟩ := info_parts Yba.info5
  refine wpList_append_own _ hgd s x 25 ho w0.heap.size 5 i0 (.int .u8 0) 1 1 Yba.underlying25 hi hz0 hz1 hz2 rfl (by decide) v t.2 _ hs (h.own.alloc _) ⟨w.heap.size, 0, none⟩ 1 1 [.int .u8 (b : Int)] hx rfl ?c1 ?c2 ?c3 ?c4 ?c5 ?_
  case c1 => exact cell_one_new _ _ _
  case c2 => intro u hu; simp at hu; subst hu; rfl
  case c3 => unfold maxLen; omega
  case c4 => omega
  case c5 => have := h.below.size; simp; omega
  intro v' w' ho' hg' _
  exact K v' w' (h.push b hb _ hg' ho')

set_option maxRecDepth 100000 in
set_option maxHeartbeats 1000000 in
theorem model_small (pv kk v : Nat) (w : World) (hk : kk ≤ 7) (hp : pv < 2 ^ kk) (hv : v < 8) :
    Calls Yba.prog 8 #[.int .u64 pv, .int .u64 kk, .int .u64 v] w fun e w' => ∃ u, e = .returned u ∧ MS w w' u (enc (pv, kk) v) := by
  have hp64 : pv < 18446744073709551616 := Nat.lt_trans hp (Nat.lt_of_le_of_lt (Nat.pow_le_pow_right (by decide) hk) (by decide))
  have hv' : (v : Int) < 8 := by omega
  go_enter Yba.func8, Yba.ntmps8
  go_wp2_with fail
  go_loopw [7, 8] (fun u x wr => ∃ i : Nat, i ≤ kk ∧ x = .int .u64 i ∧ MS w wr u (put (0, 0) (pv % 2 ^ i) i)) (fun _ x _ => kk - (intOf x).toNat)
  case atStart =>
    exact ⟨0, by omega, rfl, ⟨World.ownsRow_nil _ _ _ _, by simp [put, Nat.mod_one], Below.refl _ _⟩⟩
  case round =>
    obtain ⟨i, hik, rfl, hM⟩ := hrel
    by_cases hlt : i < kk
    · have hlt' : (i : Int) < (kk : Int) := by omega
      have e1 := shr_and pv i hp64
      have e2 := wrap_bit pv i
      have hp2 := hide (put_bit (0, 0) pv i)
      generalize hP : put (0, 0) (pv % 2 ^ i) i = P at hM hp2
      have hP2 : P.2 = i := by rw [← hP]; simp [put]
      replace hP := hide hP
      go_wp2_with (refine wpList_push (by rfl) _ _ (by rfl) P hM (bitAt pv i) _ rfl (bitAt_lt _ _) (by rfl) (by rfl) (by omega) ?_)
      intro v' w' hM'
      rw [hp2.out] at hM'
      clear hM e1 e2
      go_wp2_with fail
      go_roundw
      case rel => exact ⟨i + 1, by omega, by go_num, hM'⟩
      case measure => simp [intOf]; omega
    · have hlt' : ¬ (i : Int) < (kk : Int) := by omega
      have hik' : i = kk := by omega
      subst hik'
      have e0 : put (0, 0) (pv % 2 ^ i) i = (pv, i) := by simp [put, Nat.mod_eq_of_lt hp]
      rw [e0] at hM
      go_wp2_with (refine wpList_push (by rfl) _ _ (by rfl) (pv, i) hM 0 0 rfl (by decide) (by rfl) (by rfl) (by dsimp only; omega) ?_)
      intro v1 w1 hM1
      clear hM
      generalize hP1 : put (pv, i) 0 1 = P1 at hM1
      have hP2 : P1.2 = i + 1 := by rw [← hP1]; rfl
      replace hP1 := hide hP1
      go_wp2_with fail
      go_loopw [7, 9] (fun u x wr => ∃ j : Nat, j ≤ 3 ∧ x = .int .u64 j ∧ MS w wr u (put P1 (v % 2 ^ j) j)) (fun _ x _ => 3 - (intOf x).toNat)
      case atStart => exact ⟨0, by omega, rfl, by simpa [put, Nat.mod_one] using hM1⟩
      case round =>
        clear hM1
        obtain ⟨j, hj, rfl, hM⟩ := hrel
        by_cases hj3 : j < 3
        · have hj3' : (j : Int) < 3 := by omega
          have e1 := shr_and v j (by omega)
          have e2 := wrap_bit v j
          have hp2 := hide (put_bit P1 v j)
          generalize hP : put P1 (v % 2 ^ j) j = P at hM hp2
          have hP2 : P.2 = P1.2 + j := by rw [← hP]; simp [put]
          replace hP := hide hP
          go_wp2_with (refine wpList_push (by rfl) _ _ (by rfl) P hM (bitAt v j) _ rfl (bitAt_lt _ _) (by rfl) (by rfl) (by omega) ?_)
          intro v' w' hM'
          rw [hp2.out] at hM'
          clear hM e1 e2
          go_wp2_with fail
          go_roundw
          case rel => exact ⟨j + 1, by omega, by go_num, hM'⟩
          case measure => simp [intOf]; omega
        · have hj3' : ¬ (j : Int) < 3 := by omega
          have : j = 3 := by omega
          subst this
          go_wp2_with fail
          go_ret
          refine ⟨_, rfl, ?_⟩
          unfold enc
          rw [if_pos hv, hP1.out]
          have : v % 2 ^ 3 = v := Nat.mod_eq_of_lt hv
          rw [this] at hM
          exact hM

end Go.Proofs.Ybulkapga
