import Derived.Test.YbulkapgaHeight
import Derived.Deep.RegionWith
namespace Go.Proofs.Ybulkapga
open Go.RowKit
attribute [local go_sem ↓] Go.wp_at_zero Go.wp_at_succ

/-- A child: none, or a node of height h and size 0. -/
def Ch (w : World) (p : Option Addr) (h : Int) : Prop := (p = none ∧ h = 0) ∨ ∃ g, p = some ⟨g, 0, none⟩ ∧ w.cell? ⟨g, 3, none⟩ = some (.int .i8 h) ∧ w.cell? ⟨g, 2, none⟩ = some (.int .i32 0)

theorem height_ch (p : Option Addr) (h : Int) (w : World) (hc : Ch w p h) : Calls Yba.prog 10 #[.pointer p] w fun e w' => e = .returned (.int .i8 h) ∧ w = w' := by
  rcases hc with ⟨rfl, rfl⟩ | ⟨g, rfl, h3, _⟩
  · exact height_nil w
  · exact height_some g h w h3

theorem size_ch (p : Option Addr) (h : Int) (w : World) (hc : Ch w p h) : Calls Yba.prog 12 #[.pointer p] w fun e w' => e = .returned (.int .i64 0) ∧ w = w' := by
  rcases hc with ⟨rfl, rfl⟩ | ⟨g, rfl, _, h2⟩
  · go_enter Yba.func12, Yba.ntmps12
    go_wp2_with fail
    go_ret
    exact ⟨rfl, rfl⟩
  · go_enter Yba.func12, Yba.ntmps12
    go_wp2_with fail
    go_ret
    exact ⟨rfl, rfl⟩

theorem slen_any (n : Nat) (w : World) (h8 : w.cell? ⟨n, 8, none⟩ = some (.int .i32 0)) : Calls Yba.prog 14 #[.pointer (some ⟨n, 5, none⟩)] w fun e w' => e = .returned (.int .i64 0) ∧ w = w' := by
  go_enter Yba.func14, Yba.ntmps14
  go_wp2_with fail
  go_ret
  exact ⟨rfl, rfl⟩

theorem len_any (n : Nat) (w : World) (h4 : w.cell? ⟨n, 4, none⟩ = some (.slice none 0 0)) (h8 : w.cell? ⟨n, 8, none⟩ = some (.int .i32 0)) : Calls Yba.prog 13 #[.pointer (some ⟨n, 0, none⟩)] w fun e w' => e = .returned (.int .i64 0) ∧ w = w' := by
  go_enter Yba.func13, Yba.ntmps13
  go_wp2_with fail
  refine (slen_any n w h8).mono ?_
  rintro e w' ⟨rfl, rfl⟩
  go_wp2_with fail
  go_ret
  exact ⟨rfl, rfl⟩

theorem keep2 {w : World} {n k : Nat} {x y u : Value} (c0 : w.cell? ⟨n, 0, none⟩ = some x) (c1 : w.cell? ⟨n, 1, none⟩ = some y) (h : 2 ≤ k) :
    (w.setCell ⟨n, k, none⟩ u).drew.cell? ⟨n, 0, none⟩ = some x ∧ (w.setCell ⟨n, k, none⟩ u).drew.cell? ⟨n, 1, none⟩ = some y := by
  have e0 : (⟨n, k, none⟩ : Addr) ≠ ⟨n, 0, none⟩ := fun e => by have := congrArg Addr.off e; simp at this; omega
  have e1 : (⟨n, k, none⟩ : Addr) ≠ ⟨n, 1, none⟩ := fun e => by have := congrArg Addr.off e; simp at this; omega
  exact ⟨(World.cell?_setCell_other _ _ _ _ e0).trans c0, (World.cell?_setCell_other _ _ _ _ e1).trans c1⟩

theorem Ch.set {w : World} {p : Option Addr} {h : Int} {n k : Nat} (hc : Ch w p h) (hn : ∀ g, p = some ⟨g, 0, none⟩ → g ≠ n) (u : Value) : Ch (w.setCell ⟨n, k, none⟩ u) p h := by
  rcases hc with hc | ⟨g, hp, h3, h2⟩
  · exact Or.inl hc
  · have ne : ∀ o, (⟨n, k, none⟩ : Addr) ≠ ⟨g, o, none⟩ := fun o e => hn g hp (congrArg Addr.block e).symm
    exact Or.inr ⟨g, hp, (World.cell?_setCell_other _ _ _ _ (ne 3)).trans h3, (World.cell?_setCell_other _ _ _ _ (ne 2)).trans h2⟩

set_option maxRecDepth 100000 in
set_option maxHeartbeats 400000 in
theorem upd_any (n : Nat) (pl pr : Option Addr) (hl hr : Int) (s0 h0 : Int) (w : World) (c0 : w.cell? ⟨n, 0, none⟩ = some (.pointer pl)) (c1 : w.cell? ⟨n, 1, none⟩ = some (.pointer pr))
    (c2 : w.cell? ⟨n, 2, none⟩ = some (.int .i32 s0)) (c3 : w.cell? ⟨n, 3, none⟩ = some (.int .i8 h0)) (c4 : w.cell? ⟨n, 4, none⟩ = some (.slice none 0 0)) (c8 : w.cell? ⟨n, 8, none⟩ = some (.int .i32 0))
    (f2 : w.frozen? ⟨n, 2, none⟩ = false) (f3 : w.frozen? ⟨n, 3, none⟩ = false) (kl : Ch w pl hl) (kr : Ch w pr hr) (nl : ∀ g, pl = some ⟨g, 0, none⟩ → g ≠ n) (nr : ∀ g, pr = some ⟨g, 0, none⟩ → g ≠ n) (B : Nat) (hB : B ≤ n) :
    Calls Yba.prog 11 #[.pointer (some ⟨n, 0, none⟩)] w fun e w' => e = .returned (.tuple #[]) ∧ w'.cell? ⟨n, 3, none⟩ = some (.int .i8 (IntKind.i8.wrap ((if hl < hr then hr else hl) + 1))) ∧ Below B w w' := by
  have kl' : Ch w.drew pl hl := kl
  have kr' : Ch w.drew pr hr := kr
  have c4' : w.drew.cell? ⟨n, 4, none⟩ = some (.slice none 0 0) := c4
  have c8' : w.drew.cell? ⟨n, 8, none⟩ = some (.int .i32 0) := c8
  go_enter Yba.func11, Yba.ntmps11
  go_wp2_with fail
  go_region_held3 (fun w' => w'.cell? ⟨n, 0, none⟩ = some (.pointer pl) ∧ w'.cell? ⟨n, 1, none⟩ = some (.pointer pr))
    (first | (exact keep2 c0 c1 (by decide)) | go_keep)
    (first
      | (go_at_call 13; refine (len_any n _ c4' c8').mono ?_; rintro e w' ⟨rfl, rfl⟩)
      | (go_at_call 12; refine (size_ch _ ?h1 _ ?c1).mono ?k1; (case c1 => exact kl'); rintro e w' ⟨rfl, rfl⟩)
      | (go_at_call 12; refine (size_ch _ ?h2 _ ?c2).mono ?k2; (case c2 => exact kr'); rintro e w' ⟨rfl, rfl⟩))
  generalize IntKind.i32.wrap _ = Z
  obtain ⟨d0, d1⟩ := keep2 (u := .int .i32 Z) (k := 2) c0 c1 (by decide)
  have d3 : (w.setCell ⟨n, 2, none⟩ (.int .i32 Z)).drew.cell? ⟨n, 3, none⟩ = some (.int .i8 h0) := (World.cell?_setCell_other _ _ _ _ (fun e => by have := congrArg Addr.off e; simp at this)).trans c3
  have g3 : (w.setCell ⟨n, 2, none⟩ (.int .i32 Z)).drew.frozen? ⟨n, 3, none⟩ = false := (World.frozen?_setCell _ _ _ _).trans f3
  have ml : Ch (w.setCell ⟨n, 2, none⟩ (.int .i32 Z)).drew.drew pl hl := kl.set nl _
  have mr : Ch (w.setCell ⟨n, 2, none⟩ (.int .i32 Z)).drew.drew pr hr := kr.set nr _
  have hBe : Below B w (w.setCell ⟨n, 2, none⟩ (.int .i32 Z)).drew := by
    have := (Below.refl B w).setCell (p := ⟨n, 2, none⟩) hB (.int .i32 Z)
    exact ⟨this.os, this.tape, this.output, this.size, this.block⟩
  clear kl kr kl' kr' c0 c1 c2 c3 c4 c8 c4' c8' f2 f3
  generalize (w.setCell ⟨n, 2, none⟩ (.int .i32 Z)).drew = w1 at d0 d1 d3 g3 ml mr hBe ⊢
  go_wp2_with fail
  go_region_held3 (fun w' => w'.cell? ⟨n, 0, none⟩ = some (.pointer pl) ∧ w'.cell? ⟨n, 1, none⟩ = some (.pointer pr))
    (first | (exact keep2 d0 d1 (by decide)) | go_keep)
    (first
      | (go_at_call 10; refine (height_ch _ ?h3 _ ?c3).mono ?k3; (case c3 => exact ml); rintro e w' ⟨rfl, rfl⟩)
      | (go_at_call 10; refine (height_ch _ ?h4 _ ?c4).mono ?k4; (case c4 => exact mr); rintro e w' ⟨rfl, rfl⟩))
  go_end0
  refine ⟨rfl, World.cell?_setCell_same _ _ _ d3, ?_⟩
  have := hBe.setCell (p := ⟨n, 3, none⟩) hB (.int .i8 (IntKind.i8.wrap ((if hl < hr then hr else hl) + 1)))
  exact ⟨this.os, this.tape, this.output, this.size, this.block⟩

end Go.Proofs.Ybulkapga
