import Derived.Test.YbulkapdiBit
namespace Go.Proofs.Ybulkapdi
open Go.RowKit

set_option maxHeartbeats 400000 in
theorem add_no (bp ball n W : Nat) (R : Nat → Nat → Nat) (a b : Nat) (w : World) (h : Prec w bp ball n W R) (ha : a < n) (hb : b < n) (hr : rel R b a = true) :
    Calls Yba.prog 32 #[.slice (some ⟨bp, 0, none⟩) n n, .int .i64 a, .int .i64 b] w fun e w' => e = .returned (.bool false) ∧ ∃ k, w' = w.drewN k := by
  go_enter Yba.func32, Yba.ntmps32
  go_wp2_with (go_at_call 33; refine (has_any _ _ _ _ _ _ _ _ h hb ha).mono ?_; rintro e w' ⟨rfl, k, rfl⟩)
  go_ret
  exact ⟨rfl, _, rfl⟩

set_option maxHeartbeats 400000 in
theorem add_old (bp ball n W : Nat) (R : Nat → Nat → Nat) (a b : Nat) (w : World) (h : Prec w bp ball n W R) (ha : a < n) (hb : b < n) (hr : rel R b a = false) (hr2 : rel R a b = true) :
    Calls Yba.prog 32 #[.slice (some ⟨bp, 0, none⟩) n n, .int .i64 a, .int .i64 b] w fun e w' => e = .returned (.bool true) ∧ ∃ k, w' = w.drewN k := by
  go_enter Yba.func32, Yba.ntmps32
  go_wp2_with fail
  refine (has_any _ _ _ _ _ _ _ _ h hb ha).mono ?_; rintro e w' ⟨rfl, k, rfl⟩
  go_wp2_with fail
  refine (has_any _ _ _ _ _ _ _ _ (h.drewN k) ha hb).mono ?_; rintro e w' ⟨rfl, k2, rfl⟩
  go_wp2_with fail
  go_ret
  refine ⟨rfl, k + k2, ?_⟩
  simp [World.drewN]

theorem Prec.lt_ball {w : World} {bp ball n W : Nat} {R : Nat → Nat → Nat} (h : Prec w bp ball n W R) (x : Nat) (hx : x < n) : 0 < W := by
  have := h.nW; by_cases e : W = 0
  · subst e; omega
  · omega

def midTo (R : Nat → Nat → Nat) (b k j : Nat) : Nat → Nat → Nat := fun y i => if y = k then (if i < j then orb R b k i ||| R b i else orb R b k i) else R y i

theorem orb_lt {R : Nat → Nat → Nat} {b x j : Nat} (h : R x j < 18446744073709551616) : orb R b x j < 18446744073709551616 := by
  unfold orb
  refine Nat.or_lt_two_pow (n := 64) h ?_
  split
  · exact pow_lt64 _ (by omega)
  · decide

theorem belowDrewN {B : Nat} {w w' : World} (h : Below B w w') (k : Nat) : Below B w (w'.drewN k) := ⟨h.os, h.tape, h.output, h.size, h.block⟩

theorem addTo_self {R : Nat → Nat → Nat} {a b k : Nat} (j : Nat) : addTo R a b k k j = R k j := by simp [addTo]
theorem rel_addTo_self {R : Nat → Nat → Nat} {a b k : Nat} (y : Nat) : rel (addTo R a b k) k y = rel R k y := by unfold rel; rw [addTo_self]
theorem addTo_b {R : Nat → Nat → Nat} {a b k : Nat} (hab : a ≠ b) (hr : rel R b a = false) (j : Nat) : addTo R a b k b j = R b j := by
  have : ¬ b = a := fun e => hab e.symm
  simp [addTo, this, hr]

theorem midTo_end {R : Nat → Nat → Nat} {a b k W : Nat} (hab : a ≠ b) (hr : rel R b a = false) (hm : k = a ∨ rel R k a = true) (x j : Nat) (hj : j < W) : midTo (addTo R a b k) b k W x j = addTo R a b (k + 1) x j := by
  unfold midTo
  by_cases e : x = k
  · subst e
    simp only [if_true, hj, orb, addTo_self, addTo_b hab hr]
    simp [addTo, hm, orb]
  · simp only [e, if_false]
    unfold addTo
    have : (x < k + 1) = (x < k) := by simp; omega
    simp only [this]

theorem midTo_start {R : Nat → Nat → Nat} {b k : Nat} (x j : Nat) : upd R k (b / 64) (orb R b k (b / 64)) x j = midTo R b k 0 x j := by
  unfold upd midTo
  by_cases e1 : x = k
  · subst e1
    by_cases e2 : j = b / 64
    · simp [e2]
    · simp [e2, orb]
  · simp [e1]

theorem midTo_step {R : Nat → Nat → Nat} {b k j : Nat} (x i : Nat) : upd (midTo R b k j) k j (midTo R b k (j + 1) k j) x i = midTo R b k (j + 1) x i := by
  unfold upd midTo
  by_cases e1 : x = k
  · subst e1
    by_cases e2 : i = j
    · simp [e2]
    · have : (i < j + 1) = (i < j) := by simp; omega
      simp [e2, this]
  · simp [e1]

theorem midTo_lt {R : Nat → Nat → Nat} {b k j x i : Nat} (h1 : R k i < 18446744073709551616) (h2 : R b i < 18446744073709551616) (h3 : R x i < 18446744073709551616) : midTo R b k j x i < 18446744073709551616 := by
  unfold midTo
  split
  · split
    · exact Nat.or_lt_two_pow (n := 64) (orb_lt h1) h2
    · exact orb_lt h1
  · exact h3

set_option maxHeartbeats 1000000 in
theorem add_new (B bp ball n W : Nat) (R : Nat → Nat → Nat) (a b : Nat) (w : World) (h : Prec w bp ball n W R) (ha : a < n) (hb : b < n) (hab : a ≠ b) (hr : rel R b a = false) (hr2 : rel R a b = false)
    (hBa : B ≤ ball) (hn : n ≤ 255) :
    Calls Yba.prog 32 #[.slice (some ⟨bp, 0, none⟩) n n, .int .i64 a, .int .i64 b] w fun e w' => e = .returned (.bool true) ∧ Prec w' bp ball n W (addTo R a b n) ∧ Below B w w' := by
  go_enter Yba.func32, Yba.ntmps32
  go_wp2_with fail
  refine (has_any _ _ _ _ _ _ _ _ h hb ha).mono ?_; rintro e w' ⟨rfl, k, rfl⟩
  go_wp2_with fail
  refine (has_any _ _ _ _ _ _ _ _ (h.drewN k) ha hb).mono ?_; rintro e w' ⟨rfl, k2, rfl⟩
  go_wp2_with fail
  have HR : Hid (rel R b a = false) := hr
  have HR2 : Hid (rel R a b = false) := hr2
  clear hr hr2
  go_loopw [20] (fun i wr => ∃ k : Nat, k ≤ n ∧ i = .int .i64 k ∧ Prec wr bp ball n W (addTo R a b k) ∧ Below B w wr) (fun i _ => n - (intOf i).toNat)
  case atStart =>
    exact ⟨0, by omega, rfl, (h.drewN _).congr (fun x j _ _ => by simp [addTo]), belowDrewN (Below.refl _ _) _⟩
  case round =>
    obtain ⟨k, hk, rfl, hP, hB⟩ := hrel
    by_cases hlt : k < n
    · by_cases hskip : k ≠ a ∧ rel R k a = false
      · obtain ⟨hka, hrk⟩ := hskip
        have hk1 : ((k : Int) != (a : Int)) = true := by simp; omega
        have HRK : Hid (rel R k a = false) := hrk
        clear hrk hka
        go_wp2_with fail
        refine (has_any _ _ _ _ _ _ _ _ hP hlt ha).mono ?_; rintro e w' ⟨rfl, q, rfl⟩
        rw [rel_addTo_self, HRK.out]
        go_wp2_with fail
        go_roundw
        case rel =>
          refine ⟨k + 1, by omega, by go_num, (hP.drewN q).congr (fun x j _ _ => ?_), belowDrewN hB q⟩
          unfold addTo
          by_cases e : x = k
          · subst e
            have : ¬ x = a := by simp at hk1; omega
            simp [HRK.out, this]
          · have : (x < k + 1) = (x < k) := by simp; omega
            simp only [this]
        case measure => simp [intOf]; omega
      · have HM : Hid (k = a ∨ rel R k a = true) := by
          by_cases e : k = a
          · exact Or.inl e
          · refine Or.inr ?_
            cases hq : rel R k a
            · exact absurd ⟨e, hq⟩ hskip
            · rfl
        have hW := hP.Wle
        have hnW := hP.nW
        have hrow := hP.row k hlt
        have hword := hP.word k (b / 64) hlt (by omega)
        have hliv := hP.live k (b / 64) hlt (by omega)
        have hv : bits BinOp.or IntKind.u64 (↑(addTo R a b k k (b / 64))) (IntKind.u64.wrap (2 ^ (b % 64))) = ((orb (addTo R a b k) b k (b / 64) : Nat) : Int) := by
          rw [shl_u64 _ (by omega), bits_or_u64 _ _ (hP.lt k (b / 64) hlt (by omega)) (pow_lt64 _ (by omega))]; simp [orb]
        clear hskip
        by_cases hka : k = a
        case' pos =>
          have hk1 : ((k : Int) != (a : Int)) = false := by simp [hka]
          clear hka
          go_wp2_with fail
        case' neg =>
          have hk1 : ((k : Int) != (a : Int)) = true := by simp; omega
          have HRK : Hid (rel R k a = true) := HM.out.resolve_left hka
          clear hka
          go_wp2_with fail
          refine (has_any _ _ _ _ _ _ _ _ hP hlt ha).mono ?_; rintro e w' ⟨rfl, q, rfl⟩
          rw [rel_addTo_self, HRK.out]
          replace hP := hP.drewN q
          replace hB := belowDrewN hB q
          replace hrow := hP.row k hlt
          replace hword := hP.word k (b / 64) hlt (by omega)
          replace hliv := hP.live k (b / 64) hlt (by omega)
          generalize wr.drewN q = wr at hP hB hrow hword hliv ⊢
          go_wp2_with fail
        all_goals
          go_region
          have hP2 := (hP.set k (b / 64) (orb (addTo R a b k) b k (b / 64)) hlt (by omega) (orb_lt (hP.lt k (b / 64) hlt (by omega)))).congr (R' := midTo (addTo R a b k) b k 0) (fun x j _ _ => midTo_start x j)
          have hB2 := hB.setCell (p := ⟨ball, k * W + b / 64, none⟩) hBa (.int .u64 (orb (addTo R a b k) b k (b / 64)))
          clear hv hrow hword hliv
          generalize World.setCell _ ⟨ball, k * W + b / 64, none⟩ (.int .u64 (orb (addTo R a b k) b k (b / 64))) = w2 at hP2 hB2 ⊢
          have hrowb := hP2.row b hb
          go_wp2_with fail
          go_loopw [51] (fun i wr => ∃ j : Nat, j ≤ W ∧ i = .int .i64 j ∧ Prec wr bp ball n W (midTo (addTo R a b k) b k j) ∧ Below B w wr) (fun i _ => W - (intOf i).toNat)
          case atStart => exact ⟨0, by omega, rfl, hP2.drewN 1, belowDrewN hB2 1⟩
          case round =>
            obtain ⟨j, hj, rfl, hP3, hB3⟩ := hrel
            by_cases hjl : j < W
            · have hrk := hP3.row k hlt
              have hwk := hP3.word k j hlt hjl
              have hwb := hP3.word b j hb hjl
              have hlv := hP3.live k j hlt hjl
              have hv : bits BinOp.or IntKind.u64 (↑(midTo (addTo R a b k) b k j k j)) (↑(midTo (addTo R a b k) b k j b j)) = ((midTo (addTo R a b k) b k (j + 1) k j : Nat) : Int) := by
                rw [bits_or_u64 _ _ (hP3.lt k j hlt hjl) (hP3.lt b j hb hjl)]
                have hbk : ¬ b = k := by
                  rintro rfl
                  rcases HM.out with e | e
                  · exact hab e.symm
                  · rw [HR.out] at e; cases e
                simp [midTo, hbk]
              have hv2 : midTo (addTo R a b k) b k (j + 1) k j < 18446744073709551616 :=
                midTo_lt (hP.lt k j hlt hjl) (hP.lt b j hb hjl) (hP.lt k j hlt hjl)
              go_wp2_with fail
              go_roundw
              case rel => exact ⟨j + 1, by omega, by go_num, (hP3.set k j _ hlt hjl hv2).congr (fun x i _ _ => midTo_step x i), hB3.setCell hBa _⟩
              case measure => simp [intOf]; omega
            · have : j = W := by omega
              subst this
              go_wp2_with fail
              go_roundw
              case rel => exact ⟨k + 1, by omega, by go_num, hP3.congr (fun x i _ hi => midTo_end hab HR.out HM.out x i hi), hB3⟩
              case measure => simp [intOf]; omega
    · go_wp2_with fail
      go_ret
      have : k = n := by omega
      subst this
      exact ⟨rfl, hP, hB⟩

def addR (R : Nat → Nat → Nat) (a b n : Nat) : Nat → Nat → Nat := if rel R b a = true then R else if rel R a b = true then R else addTo R a b n

theorem add_any (B bp ball n W : Nat) (R : Nat → Nat → Nat) (a b : Nat) (w : World) (h : Prec w bp ball n W R) (ha : a < n) (hb : b < n) (hab : a ≠ b) (hBa : B ≤ ball) (hn : n ≤ 255) :
    Calls Yba.prog 32 #[.slice (some ⟨bp, 0, none⟩) n n, .int .i64 a, .int .i64 b] w fun e w' => e = .returned (.bool (!rel R b a)) ∧ Prec w' bp ball n W (addR R a b n) ∧ Below B w w' := by
  cases h1 : rel R b a
  · cases h2 : rel R a b
    · refine (add_new B bp ball n W R a b w h ha hb hab h1 h2 hBa hn).mono ?_
      rintro e w' ⟨rfl, hP, hB⟩
      refine ⟨rfl, ?_, hB⟩
      simpa [addR, h1, h2] using hP
    · refine (add_old bp ball n W R a b w h ha hb h1 h2).mono ?_
      rintro e w' ⟨rfl, k, rfl⟩
      refine ⟨rfl, ?_, belowDrewN (Below.refl _ _) k⟩
      simpa [addR, h1, h2] using h.drewN k
  · refine (add_no bp ball n W R a b w h ha hb h1).mono ?_
    rintro e w' ⟨rfl, k, rfl⟩
    refine ⟨rfl, ?_, belowDrewN (Below.refl _ _) k⟩
    simpa [addR, h1] using h.drewN k

end Go.Proofs.Ybulkapdi
