import Derived.Test.YbulkapgaModel
namespace Go.Proofs.Ybulkapga
open Go.RowKit

set_option maxRecDepth 100000 in
set_option maxHeartbeats 1000000 in
theorem model_big (pv kk v : Nat) (w : World) (hk : kk ≤ 7) (hp : pv < 2 ^ kk) (hv : ¬ v < 8) (hv64 : v < 18446744073709551616) :
    Calls Yba.prog 8 #[.int .u64 pv, .int .u64 kk, .int .u64 v] w fun e w' => ∃ u, e = .returned u ∧ MS w w' u (enc (pv, kk) v) := by
  have hp64 : pv < 18446744073709551616 := Nat.lt_trans hp (Nat.lt_of_le_of_lt (Nat.pow_le_pow_right (by decide) hk) (by decide))
  have hv' : ¬ (v : Int) < 8 := by omega
  go_enter Yba.func8, Yba.ntmps8
  go_wp2_with fail
  go_loopw [7, 8] (fun u x wr => ∃ i : Nat, i ≤ kk ∧ x = .int .u64 i ∧ MS w wr u (put (0, 0) (pv % 2 ^ i) i)) (fun _ x _ => kk - (intOf x).toNat)
  case atStart =>
    exact ⟨0, by omega, rfl, ⟨World.ownsRow_nil _ _ _ _, by simp [put, Nat.mod_one], Below.refl _ _⟩⟩
  case round =>
    obtain ⟨i, hik, rfl, hM⟩ := hrel
    by_cases hlt : i < kk
    · have hlt' : (i : Int) < (kk : Int) := by omega
      have e1 := shr_and pv i hp64
      have e2 := wrap_bit pv i
      have hp2 := hide (put_bit (0, 0) pv i)
      generalize hP : put (0, 0) (pv % 2 ^ i) i = P at hM hp2
      have hP2 : P.2 = i := by rw [← hP]; simp [put]
      replace hP := hide hP
      go_wp2_with (refine wpList_push (by rfl) _ _ (by rfl) P hM (bitAt pv i) _ rfl (bitAt_lt _ _) (by rfl) (by rfl) (by omega) ?_)
      intro v' w' hM'
      rw [hp2.out] at hM'
      clear hM e1 e2
      go_wp2_with fail
      go_roundw
      case rel => exact ⟨i + 1, by omega, by go_num, hM'⟩
      case measure => simp [intOf]; omega
    · have hlt' : ¬ (i : Int) < (kk : Int) := by omega
      have hik' : i = kk := by omega
      subst hik'
      have e0 : put (0, 0) (pv % 2 ^ i) i = (pv, i) := by simp [put, Nat.mod_eq_of_lt hp]
      rw [e0] at hM
      go_wp2_with (refine wpList_push (by rfl) _ _ (by rfl) (pv, i) hM 1 1 rfl (by decide) (by rfl) (by rfl) (by dsimp only; omega) ?_)
      intro v1 w1 hM1
      clear hM
      have hR : Hid (grp 10 (put (pv, i) 1 1) (v - 8) = enc (pv, i) v) := hide (by unfold enc; rw [if_neg hv])
      generalize hP1 : put (pv, i) 1 1 = P1 at hM1 hR
      have hP2 : P1.2 = i + 1 := by rw [← hP1]; rfl
      clear hP1
      go_wp2_with fail
      go_loopw [7, 10, 11] (fun u x g wr => ∃ (f y : Nat) (t : Nat × Nat), f ≤ 9 ∧ g = .int .i64 ((9 - f : Nat) : Int) ∧ x = .int .u64 y ∧ y < 128 ^ (f + 1) ∧ y < 18446744073709551616 ∧ MS w wr u t ∧ Hid (grp (f + 1) t y = enc (pv, i) v) ∧ t.2 + 8 * f ≤ 100) (fun _ _ g _ => 10 - (intOf g).toNat)
      case atStart => exact ⟨9, v - 8, P1, by omega, rfl, by congr 1; omega, by omega, by omega, hM1, hR, by omega⟩
      case round =>
        clear hM1 hR hP2
        obtain ⟨f, y, t, hf9, rfl, rfl, hy, hy64, hM, hg, hl⟩ := hrel
        have hg10 : (((9 - f : Nat) : Int)) < 10 := by omega
        go_wp2_with fail
        generalize wr = wq at hM ⊢
        go_loopw [7, 12] (fun u x wr => ∃ j : Nat, j ≤ 7 ∧ x = .int .u64 j ∧ MS w wr u (put t (y % 2 ^ j) j)) (fun _ x _ => 7 - (intOf x).toNat)
        case atStart => exact ⟨0, by omega, rfl, by simpa [put, Nat.mod_one] using hM⟩
        case round =>
          clear hM
          obtain ⟨j, hj, rfl, hM⟩ := hrel
          by_cases hj7 : j < 7
          · have hj7' : (j : Int) < 7 := by omega
            have e1 := shr_and y j hy64
            have e2 := wrap_bit y j
            have hp2 := hide (put_bit t y j)
            generalize hP : put t (y % 2 ^ j) j = P at hM hp2
            have hP2 : P.2 = t.2 + j := by rw [← hP]; simp [put]
            replace hP := hide hP
            go_wp2_with (refine wpList_push (by rfl) _ _ (by rfl) P hM (bitAt y j) _ rfl (bitAt_lt _ _) (by rfl) (by rfl) (by omega) ?_)
            intro v' w' hM'
            rw [hp2.out] at hM'
            clear hM e1 e2
            go_wp2_with fail
            go_roundw
            case rel => exact ⟨j + 1, by omega, by go_num, hM'⟩
            case measure => simp [intOf]; omega
          · have hj7' : ¬ (j : Int) < 7 := by omega
            have : j = 7 := by omega
            subst this
            have e7 : y % 2 ^ 7 = y % 128 := rfl
            rw [e7] at hM
            clear e7
            have hl7 : (put t (y % 128) 7).2 ≤ 1000 := by rw [put_len]; omega
            by_cases hlt2 : y < 128
            · have hlt2' : (y : Int) < 128 := by omega
              go_wp2_with (refine wpList_push (by rfl) _ _ (by rfl) (put t (y % 128) 7) hM 0 0 rfl (by decide) (by rfl) (by rfl) hl7 ?_)
              intro v2 w2 hM2
              clear hM
              go_wp2_with fail
              go_ret
              refine ⟨_, rfl, ?_⟩
              rw [← hg.out]
              unfold grp
              rw [if_pos hlt2]
              exact hM2
            · have hlt2' : ¬ (y : Int) < 128 := by omega
              have hf : ∃ f', f = f' + 1 := by
                cases f with
                | zero => exact absurd hy (by simpa using hlt2)
                | succ f' => exact ⟨f', rfl⟩
              obtain ⟨f', rfl⟩ := hf
              have hu2 : y / 128 < 128 ^ (f' + 1) := by
                rw [Nat.div_lt_iff_lt_mul (by decide), ← Nat.pow_succ]; exact hy
              go_wp2_with (refine wpList_push (by rfl) _ _ (by rfl) (put t (y % 128) 7) hM 1 1 rfl (by decide) (by rfl) (by rfl) hl7 ?_)
              intro v2 w2 hM2
              clear hM
              go_wp2_with fail
              go_roundw
              case rel =>
                refine ⟨f', y / 128, put (put t (y % 128) 7) 1 1, by omega, by congr 1; omega, by go_num, hu2, by omega, hM2, hide ?_, by rw [put_len, put_len]; omega⟩
                rw [← hg.out]
                conv => rhs; unfold grp
                rw [if_neg hlt2]
              case measure => simp [intOf]; omega

end Go.Proofs.Ybulkapga
