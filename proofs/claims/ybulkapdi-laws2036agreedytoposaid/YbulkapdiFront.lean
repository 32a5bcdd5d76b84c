import Derived.Test.YbulkapdiMust
namespace Go.Proofs.Ybulkapdi
open Go.RowKit

def orUp (R : Nat → Nat → Nat) : Nat → Nat → Nat
  | 0, _ => 0
  | x + 1, j => orUp R x j ||| R x j

structure Aft (w : World) (ba W : Nat) (f : Nat → Nat) : Prop where
  cell : ∀ j, j < W → w.cell? ⟨ba, j, none⟩ = some (.int .u64 (f j))
  lt : ∀ j, j < W → f j < 18446744073709551616
  live : ∀ j, j < W → w.frozen? ⟨ba, j, none⟩ = false

theorem Prec.setOther {w : World} {bp ball n W : Nat} {R : Nat → Nat → Nat} (h : Prec w bp ball n W R) {a : Addr} (h1 : a.block ≠ bp) (h2 : a.block ≠ ball) (u : Value) : Prec (w.setCell a u) bp ball n W R :=
  ⟨fun x hx => by rw [World.cell?_setCell_other _ _ _ _ (fun e => h1 (by rw [e]))]; exact h.row x hx,
   fun x j hx hj => by rw [World.cell?_setCell_other _ _ _ _ (fun e => h2 (by rw [e]))]; exact h.word x j hx hj, h.lt,
   fun x j hx hj => by rw [World.frozen?_setCell]; exact h.live x j hx hj, h.ne, h.nW, h.Wle⟩

theorem Prec.block_lt {w : World} {bp ball n W : Nat} {R : Nat → Nat → Nat} (h : Prec w bp ball n W R) (hn : 0 < n) (hW : 0 < W) : bp < w.heap.size ∧ ball < w.heap.size :=
  ⟨World.block_lt_of_cell? _ _ (h.row 0 hn), World.block_lt_of_cell? _ _ (h.word 0 0 hn hW)⟩

theorem Prec.alloc {w : World} {bp ball n W : Nat} {R : Nat → Nat → Nat} (h : Prec w bp ball n W R) (hp : bp < w.heap.size) (hb : ball < w.heap.size) (o : Obj) : Prec (w.alloc o) bp ball n W R :=
  ⟨fun x hx => by rw [World.cell?_alloc_lt _ _ _ hp]; exact h.row x hx,
   fun x j hx hj => by rw [World.cell?_alloc_lt _ _ _ hb]; exact h.word x j hx hj, h.lt,
   fun x j hx hj => by rw [World.frozen?_alloc_old _ _ _ (Nat.ne_of_lt hb)]; exact h.live x j hx hj, h.ne, h.nW, h.Wle⟩

theorem Aft.set {w : World} {ba W : Nat} {f : Nat → Nat} (h : Aft w ba W f) (j v : Nat) (hj : j < W) (hv : v < 18446744073709551616) :
    Aft (w.setCell ⟨ba, j, none⟩ (.int .u64 v)) ba W (fun i => if i = j then v else f i) := by
  refine ⟨fun i hi => ?_, fun i hi => ?_, fun i hi => ?_⟩
  · by_cases e : i = j
    · subst e; rw [World.cell?_setCell_same _ _ _ (h.cell i hi)]; simp
    · rw [World.cell?_setCell_other _ _ _ _ (fun e' => e (congrArg Addr.off e').symm)]; simp [e, h.cell i hi]
  · by_cases e : i = j
    · simp [e, hv]
    · simp [e, h.lt i hi]
  · rw [World.frozen?_setCell]; exact h.live i hi

theorem Aft.congr {w : World} {ba W : Nat} {f f' : Nat → Nat} (h : Aft w ba W f) (e : ∀ j, j < W → f j = f' j) : Aft w ba W f' :=
  ⟨fun j hj => by rw [← e j hj]; exact h.cell j hj, fun j hj => by rw [← e j hj]; exact h.lt j hj, h.live⟩

theorem orUp_lt {R : Nat → Nat → Nat} {n W : Nat} (h : ∀ x j, x < n → j < W → R x j < 18446744073709551616) (x j : Nat) (hx : x ≤ n) (hj : j < W) : orUp R x j < 18446744073709551616 := by
  induction x with
  | zero => simp [orUp]
  | succ x ih => exact Nat.or_lt_two_pow (n := 64) (ih (by omega)) (h x j (by omega) hj)

theorem testBit_orUp (R : Nat → Nat → Nat) (n j k : Nat) : (orUp R n j).testBit k = true ↔ ∃ x, x < n ∧ (R x j).testBit k = true := by
  induction n with
  | zero => simp [orUp]
  | succ n ih =>
    rw [orUp, Nat.testBit_or, Bool.or_eq_true, ih]
    constructor
    · rintro (⟨x, hx, h⟩ | h)
      · exact ⟨x, by omega, h⟩
      · exact ⟨n, by omega, h⟩
    · rintro ⟨x, hx, h⟩
      by_cases e : x = n
      · subst e; exact Or.inr h
      · exact Or.inl ⟨x, by omega, h⟩

def isReady (R : Nat → Nat → Nat) (m : Nat) (placed : Nat → Bool) (t : Nat) : Bool := !placed t && !(orUp R m (t / 64)).testBit (t % 64)
def readyTo (R : Nat → Nat → Nat) (m : Nat) (placed : Nat → Bool) (k : Nat) : List Nat := (List.range k).filter (isReady R m placed)

def FrontPost (o : Option (Nat → Nat → Nat)) (B m : Nat) (placed : Nat → Bool) (e : Ending) (w' : World) : Prop :=
  match o with
  | none => e = .returned (.slice none 0 0)
  | some R => ∃ v, e = .returned v ∧ w'.ownsRow B 3 1 v (readyTo R m placed m).length (ints (readyTo R m placed m))

theorem Yba.info3 : (Yba.prog.info? 3).map (fun i => (i.zero, i.size, i.bytes)) = some (some (.int .i64 0), 1, 8) := by kernel_rfl

theorem readyTo_yes {R : Nat → Nat → Nat} {m : Nat} {placed : Nat → Bool} {k : Nat} (h : isReady R m placed k = true) : readyTo R m placed (k + 1) = readyTo R m placed k ++ [k] := by
  simp [readyTo, List.range_succ, List.filter_append, h]
theorem readyTo_no {R : Nat → Nat → Nat} {m : Nat} {placed : Nat → Bool} {k : Nat} (h : isReady R m placed k = false) : readyTo R m placed (k + 1) = readyTo R m placed k := by
  simp [readyTo, List.range_succ, List.filter_append, h]
theorem readyTo_le (R : Nat → Nat → Nat) (m : Nat) (placed : Nat → Bool) (k : Nat) : (readyTo R m placed k).length ≤ k := by
  have := List.length_filter_le (isReady R m placed) (List.range k); simpa [readyTo] using this

set_option maxRecDepth 100000 in
set_option maxHeartbeats 2000000 in
theorem front_none (σ : Shape) (B0 m W : Nat) (preds : Nat → List Nat) (placed : Nat → Bool) (w : World) (h : SS w σ B0 m preds placed) (h1 : 1 ≤ m) (hm : m ≤ 255) (hW : W = (m + 63) / 64)
    (hlen : ∀ t, t < m → (preds t).length ≤ 100000) (hpr : ∀ t p, t < m → p ∈ preds t → p < m ∧ p ≠ t) (hn : addAll m (edgesTo preds placed m) (fun _ _ => 0) = none) :
    Calls Yba.prog 13 #[.pointer (some ⟨σ.bs, 0, none⟩)] w fun e w' => e = .returned (.slice none 0 0) ∧ Below w.heap.size w w' := by
  have hc := must_any σ B0 m W preds placed w h h1 hm hW hlen hpr
  rw [hn] at hc
  have HC := hide hc
  clear hc hn
  go_enter Yba.func13, Yba.ntmps13
  go_wp2_with (go_at_call 22; refine (unhide HC).mono ?_; rintro e w1 ⟨rfl, hB1⟩)
  go_ret
  exact ⟨rfl, hB1⟩

set_option maxRecDepth 100000 in
set_option maxHeartbeats 2000000 in
theorem front_some (σ : Shape) (B0 m W : Nat) (preds : Nat → List Nat) (placed : Nat → Bool) (w : World) (h : SS w σ B0 m preds placed) (h1 : 1 ≤ m) (hm : m ≤ 255) (hW : W = (m + 63) / 64)
    (hlen : ∀ t, t < m → (preds t).length ≤ 100000) (hpr : ∀ t p, t < m → p ∈ preds t → p < m ∧ p ≠ t) (R : Nat → Nat → Nat) (hn : addAll m (edgesTo preds placed m) (fun _ _ => 0) = some R) :
    Calls Yba.prog 13 #[.pointer (some ⟨σ.bs, 0, none⟩)] w fun e w' => (∃ v, e = .returned v ∧ w'.ownsRow w.heap.size 3 1 v (readyTo R m placed m).length (ints (readyTo R m placed m))) ∧ Below w.heap.size w w' := by
  have hc := must_any σ B0 m W preds placed w h h1 hm hW hlen hpr
  rw [hn] at hc
  have HC := hide hc
  have hW1 : 1 ≤ W := by omega
  have hW4 : W ≤ 4 := by omega
  have eW : ((m : Int) + 63) / 64 = (W : Int) := by omega
  clear hc hn hW
  have mk := fun (w : World) => make_run (P := Yba.prog) 42 41 (.int .u64 0) 8 Yba.underlying42 Yba.info41 rfl W (by omega) (by omega) w
  have g3 := h.f3
  go_enter Yba.func13, Yba.ntmps13
  go_wp2_with (go_at_call 22; refine (unhide HC).mono ?_; rintro e w1 ⟨⟨rfl, hP1, hz1⟩, hB1⟩; have k3 := cell_below hB1 g3)
  simp only [eW]
  clear mk eW k3 g3
  obtain ⟨hbp, hba⟩ := hP1.block_lt (by omega) (by omega)
  have hP2 := hP1.alloc hbp hba (.cells (Array.replicate W (.int .u64 0)) 41)
  have hA2 : Aft (w1.alloc (.cells (Array.replicate W (.int .u64 0)) 41)) w1.heap.size W (orUp R 0) :=
    ⟨fun j hj => by simp [orUp, hj], fun j hj => by simp [orUp], fun j hj => by simp⟩
  have hB2 : Below w.heap.size w (w1.alloc (.cells (Array.replicate W (.int .u64 0)) 41)) := hB1.alloc hB1.size _
  generalize w1.alloc (.cells (Array.replicate W (.int .u64 0)) 41) = w2 at hP2 hA2 hB2 ⊢
  have hRl := hP1.lt
  have HBA : Hid (w.heap.size + 1 < w1.heap.size) := hz1
  generalize w1.heap.size = ba at hA2 hbp hba HBA ⊢
  have hn1 : Hid (ba ≠ w.heap.size + 1) := hide (by have := HBA.out; omega)
  have hn2 : Hid (ba ≠ w.heap.size) := hide (by have := HBA.out; omega)
  have hn3 : Hid (w.heap.size ≤ ba) := hide (by have := HBA.out; omega)
  clear hz1 hP1 hB1
  go_loopw [30] (fun i wr => ∃ x : Nat, x ≤ m ∧ i = .int .i64 x ∧ Prec wr (w.heap.size + 1) w.heap.size m W R ∧ Aft wr ba W (orUp R x) ∧ Below w.heap.size w wr) (fun i _ => m - (intOf i).toNat)
  case atStart => exact ⟨0, by omega, rfl, hP2, hA2, hB2⟩
  case round =>
    clear hP2 hA2 hB2 w2
    obtain ⟨x, hx, rfl, hP, hA, hB⟩ := hrel
    by_cases hlt : x < m
    · have hrow := hP.row x hlt
      go_wp2_with fail
      clear hrow
      go_loopw [36] (fun i wr => ∃ j : Nat, j ≤ W ∧ i = .int .i64 j ∧ Prec wr (w.heap.size + 1) w.heap.size m W R ∧ Aft wr ba W (fun i => if i < j then orUp R (x + 1) i else orUp R x i) ∧ Below w.heap.size w wr) (fun i _ => W - (intOf i).toNat)
      case atStart => exact ⟨0, by omega, rfl, hP, hA.congr (fun j _ => by simp), hB⟩
      case round =>
        clear hP hA hB
        obtain ⟨j, hj, rfl, hP, hA, hB⟩ := hrel
        by_cases hjl : j < W
        · have hc := hA.cell j hjl
          simp only [Nat.lt_irrefl, if_false] at hc
          have hl := hA.live j hjl
          have hw := hP.word x j hlt hjl
          have hv : bits BinOp.or IntKind.u64 (↑(orUp R x j)) (↑(R x j)) = ((orUp R (x + 1) j : Nat) : Int) := by
            rw [bits_or_u64 _ _ (orUp_lt hRl x j hx hjl) (hRl x j hlt hjl)]; rfl
          go_wp2_with fail
          go_roundw
          case rel =>
            refine ⟨j + 1, by omega, by go_num, hP.setOther (a := ⟨ba, j, none⟩) hn1.out hn2.out _, (hA.set j _ hjl (orUp_lt hRl (x + 1) j (by omega) hjl)).congr (fun i _ => ?_), hB.setCell (p := ⟨ba, j, none⟩) hn3.out _⟩
            by_cases e : i = j
            · subst e; simp
            · have : (i < j + 1) = (i < j) := by simp; omega
              simp [e, this]
          case measure => simp [intOf]; omega
        · go_wp2_with fail
          go_roundw
          case rel => exact ⟨x + 1, by omega, by go_num, hP, hA.congr (fun i hi => if_pos (by omega)), hB⟩
          case measure => simp [intOf]; omega
    · have : x = m := by omega
      subst this
      have hS := h.below hB
      have g3 := hS.f3
      go_wp2_with fail
      clear g3 hS
      generalize wr = wo at hP hA hB ⊢
      go_loopw [10, 55] (fun v i wr2 => ∃ k : Nat, k ≤ x ∧ i = .int .i64 k ∧ wr2.ownsRow wo.heap.size 3 1 v (readyTo R x placed k).length (ints (readyTo R x placed k)) ∧ Below wo.heap.size wo wr2) (fun _ i _ => x - (intOf i).toNat)
      case atStart => exact ⟨0, by omega, rfl, World.ownsRow_nil _ _ _ _, Below.refl _ _⟩
      case round =>
        obtain ⟨k, hk, rfl, hown, hB3⟩ := hrel
        by_cases hkx : k < x
        · have hS := (h.below hB).below hB3
          have g2 := hS.f2
          have g3 := hS.f3
          have g5 := hS.f5
          have gp := hS.part k hkx
          have gq := hS.plc k hkx
          have gl := hS.loc k hkx
          have ga := cell_below hB3 (hA.cell (k / 64) (by have := hP.nW; omega))
          have hkW : k / 64 < W := by have := hP.nW; omega
          have gal := hA.lt (k / 64) hkW
          have hrl := readyTo_le R x placed k
          cases hpk : placed k
          · rw [hpk] at gq
            have HPK := hide hpk
            clear hpk
            go_wp2_with fail
            refine (bit_any _ 0 _ _ _ _ _ gal hkW (by omega) (by simpa using ga)).mono ?_
            rintro e w' ⟨rfl, q, rfl⟩
            cases hb : (orUp R x (k / 64)).testBit (k % 64)
            · have HR : Hid (isReady R x placed k = true) := hide (by simp [isReady, unhide HPK, hb])
              clear hb g2 g3 g5 gp gq gl ga gal
              replace hB3 := belowDrewN hB3 q
              have hown : (wr.drewN q).ownsRow wo.heap.size 3 1 _ _ _ := hown
              generalize wr.drewN q = w9 at hown hB3 ⊢
              obtain ⟨i0, hi, hz0, hz1, hz2⟩ := info_parts Yba.info3
              go_wp2_with (first | (at_builtin; refine wpList_append_own _ rfl _ _ 27 rfl wo.heap.size 3 i0 (.int .i64 0) 1 8 Yba.underlying27 hi hz0 hz1 hz2 rfl (by decide) _ _ _ rfl (hown.alloc _) ⟨w9.heap.size, 0, none⟩ 1 1 [.int .i64 k] rfl rfl ?c1 ?c2 ?c3 ?c4 ?c5 ?_))
              case c1 => exact cell_one_new _ _ _
              case c2 => intro u hu; simp at hu; subst hu; rfl
              case c3 => unfold maxLen; omega
              case c4 => omega
              case c5 => have := hB3.size; simp; omega
              intro v' w8 hown' hgrow _
              have hB8 : Below wo.heap.size wo w8 := (hB3.alloc hB3.size _).grown hgrow (by have := hB3.size; simp; omega) (fun k' hk' => (hown.lt k' hk').1)
              clear hgrow hown hB3
              go_wp2_with fail
              go_roundw
              case rel => exact ⟨k + 1, by omega, by go_num, by rw [readyTo_yes HR.out]; simpa [ints] using hown', hB8⟩
              case measure => simp [intOf]; omega
            · have HR : Hid (isReady R x placed k = false) := hide (by simp [isReady, unhide HPK, hb])
              go_wp2_with fail
              go_roundw
              case rel => exact ⟨k + 1, by omega, by go_num, by rw [readyTo_no HR.out]; exact hown, belowDrewN hB3 q⟩
              case measure => simp [intOf]; omega
          · rw [hpk] at gq
            have HPK := hide hpk
            clear hpk
            go_wp2_with fail
            go_roundw
            case rel => exact ⟨k + 1, by omega, by go_num, by rw [readyTo_no (by simp [isReady, unhide HPK])]; exact hown, hB3⟩
            case measure => simp [intOf]; omega
        · have : k = x := by omega
          subst this
          go_wp2_with fail
          go_ret
          refine ⟨⟨_, rfl, ?_⟩, hB.trans (hB3.mono hB.size)⟩
          obtain ⟨a1, a2⟩ := hown
          refine ⟨a1, ?_⟩
          rcases a2 with a2 | ⟨g, cap, cur, b1, b2, b3⟩
          · exact Or.inl a2
          · exact Or.inr ⟨g, cap, cur, b1, Nat.le_trans hB.size b2, b3⟩

end Go.Proofs.Ybulkapdi
