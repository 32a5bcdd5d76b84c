import Derived.Test.YbulkapdiRows
import Derived.Test.YbulkapdiPlain
import Derived.WalkKit
import Derived.WalkSpells
import Derived.WalkLawsBesides
import Derived.Handy
import Derived.Deep.QuietTactic
import Derived.BigQuiet
namespace Go.Proofs.Ybulkapdi
open Go.RowKit

theorem ret_bool {a b : Bool} (h : a = b) : Ending.returned (.bool a) = .returned (.bool b) := by rw [h]

set_option maxHeartbeats 400000 in
theorem bit_any (b off n c i x : Nat) (w : World) (hx : x < 18446744073709551616) (hi : i / 64 < n) (hn : n ≤ 1000000)
    (hc : w.cell? ⟨b, off + i / 64, none⟩ = some (.int .u64 x)) :
    Calls Yba.prog 23 #[.slice (some ⟨b, off, none⟩) n c, .int .i64 i] w fun e w' => e = .returned (.bool (x.testBit (i % 64))) ∧ ∃ k, w' = w.drewN k := by
  have hb := bit_word x (i % 64) hx (by omega)
  have HB : Hid ((bits .and .u64 (x : Int) (IntKind.u64.wrap ((2 : Int) ^ (i % 64))) != 0) = x.testBit (i % 64)) := hb
  clear hb
  go_enter Yba.func23, Yba.ntmps23
  go_wp2
  go_quiet (fail)
  go_wp2
  go_ret
  exact ⟨ret_bool HB.out, _, rfl⟩

structure Prec (w : World) (bp ball n W : Nat) (R : Nat → Nat → Nat) : Prop where
  row : ∀ x, x < n → w.cell? ⟨bp, x, none⟩ = some (.slice (some ⟨ball, x * W, none⟩) W (n * W - x * W))
  word : ∀ x j, x < n → j < W → w.cell? ⟨ball, x * W + j, none⟩ = some (.int .u64 (R x j))
  lt : ∀ x j, x < n → j < W → R x j < 18446744073709551616
  live : ∀ x j, x < n → j < W → w.frozen? ⟨ball, x * W + j, none⟩ = false
  ne : bp ≠ ball
  nW : n ≤ W * 64
  Wle : W ≤ 4

def rel (R : Nat → Nat → Nat) (x y : Nat) : Bool := (R x (y / 64)).testBit (y % 64)

set_option maxHeartbeats 400000 in
theorem has_any (bp ball n W : Nat) (R : Nat → Nat → Nat) (a b : Nat) (w : World) (h : Prec w bp ball n W R) (ha : a < n) (hb : b < n) :
    Calls Yba.prog 33 #[.slice (some ⟨bp, 0, none⟩) n n, .int .i64 a, .int .i64 b] w fun e w' => e = .returned (.bool (rel R a b)) ∧ ∃ k, w' = w.drewN k := by
  have hr := h.row a ha
  have hw := h.word a (b / 64) ha (by have := h.nW; omega)
  have hl := h.lt a (b / 64) ha (by have := h.nW; omega)
  have hW := h.Wle
  have hnW := h.nW
  go_enter Yba.func33, Yba.ntmps33
  go_wp2_with (go_at_call 23; refine (bit_any _ _ _ _ _ _ _ hl (by omega) (by omega) hw).mono ?_; rintro e w' ⟨rfl, k, rfl⟩)
  go_ret
  exact ⟨rfl, _, rfl⟩

theorem cell_inj {W x y i j : Nat} (hi : i < W) (hj : j < W) (h : x * W + i = y * W + j) : x = y ∧ i = j := by
  have h1 : (x * W + i) / W = x := by
    rw [Nat.mul_comm, Nat.mul_add_div (by omega), Nat.div_eq_of_lt hi, Nat.add_zero]
  have h2 : (y * W + j) / W = y := by
    rw [Nat.mul_comm, Nat.mul_add_div (by omega), Nat.div_eq_of_lt hj, Nat.add_zero]
  have e : x = y := by rw [← h1, ← h2, h]
  subst e
  exact ⟨rfl, by omega⟩

def upd (R : Nat → Nat → Nat) (x j v : Nat) : Nat → Nat → Nat := fun y i => if y = x ∧ i = j then v else R y i

theorem Prec.congr {w : World} {bp ball n W : Nat} {R R' : Nat → Nat → Nat} (h : Prec w bp ball n W R) (e : ∀ x j, x < n → j < W → R x j = R' x j) : Prec w bp ball n W R' :=
  ⟨h.row, fun x j hx hj => by rw [← e x j hx hj]; exact h.word x j hx hj, fun x j hx hj => by rw [← e x j hx hj]; exact h.lt x j hx hj, h.live, h.ne, h.nW, h.Wle⟩

theorem Prec.drewN {w : World} {bp ball n W : Nat} {R : Nat → Nat → Nat} (h : Prec w bp ball n W R) (k : Nat) : Prec (w.drewN k) bp ball n W R :=
  ⟨h.row, h.word, h.lt, h.live, h.ne, h.nW, h.Wle⟩

theorem Prec.set {w : World} {bp ball n W : Nat} {R : Nat → Nat → Nat} (h : Prec w bp ball n W R) (x j v : Nat) (hx : x < n) (hj : j < W) (hv : v < 18446744073709551616) :
    Prec (w.setCell ⟨ball, x * W + j, none⟩ (.int .u64 v)) bp ball n W (upd R x j v) := by
  refine ⟨fun y hy => ?_, fun y i hy hi => ?_, fun y i hy hi => ?_, fun y i hy hi => ?_, h.ne, h.nW, h.Wle⟩
  · rw [World.cell?_setCell_other _ _ _ _ (by intro e; exact h.ne (Eq.symm (congrArg Addr.block e)))]
    exact h.row y hy
  · by_cases e : y = x ∧ i = j
    · obtain ⟨rfl, rfl⟩ := e
      rw [World.cell?_setCell_same _ _ _ (h.word y i hy hi)]
      simp [upd]
    · rw [World.cell?_setCell_other _ _ _ _ (by
        intro e'
        have := congrArg Addr.off e'
        obtain ⟨rfl, rfl⟩ := cell_inj hj hi this
        exact e ⟨rfl, rfl⟩)]
      rw [h.word y i hy hi]
      simp [upd, e]
  · unfold upd
    split
    · exact hv
    · exact h.lt y i hy hi
  · rw [World.frozen?_setCell]; exact h.live y i hy hi

def orb (R : Nat → Nat → Nat) (b x j : Nat) : Nat := R x j ||| (if j = b / 64 then 2 ^ (b % 64) else 0)
def addTo (R : Nat → Nat → Nat) (a b k : Nat) : Nat → Nat → Nat := fun y j => if y < k ∧ (y = a ∨ rel R y a = true) then orb R b y j ||| R b j else R y j

end Go.Proofs.Ybulkapdi
