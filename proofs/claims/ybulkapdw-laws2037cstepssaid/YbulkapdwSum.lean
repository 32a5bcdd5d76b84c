import Derived.Test.YbulkapdwBuild
namespace Go.Proofs.Ybulkapdw

theorem sumN_add (f g : Nat → Nat) (i n : Nat) : sumN (fun t => f t + g t) i n = sumN f i n + sumN g i n := by
  induction n with
  | zero => rfl
  | succ n ih => simp only [sumN, ih]; omega

theorem sumN_one (b c i n : Nat) : sumN (fun t => if b = t then c else 0) i n = if i ≤ b ∧ b < i + n then c else 0 := by
  induction n with
  | zero => simp only [sumN]; rw [if_neg (by omega)]
  | succ n ih =>
    simp only [sumN, ih]
    by_cases h : i ≤ b ∧ b < i + n
    · rw [if_pos h, if_neg (by omega), if_pos (by omega)]; rfl
    · rw [if_neg h]
      by_cases h2 : b = i + n
      · rw [if_pos h2, if_pos (by omega)]; omega
      · rw [if_neg h2, if_neg (by omega)]

theorem sumN_head (f : Nat → Nat) (i n : Nat) : sumN f i (n + 1) = f i + sumN f (i + 1) n := by
  induction n with
  | zero => simp [sumN]
  | succ n ih =>
    rw [sumN, ih]
    simp only [sumN]
    have : i + (n + 1) = i + 1 + n := by omega
    rw [this]; omega

theorem sumN_congr (f g : Nat → Nat) (i n : Nat) (h : ∀ t, f t = g t) : sumN f i n = sumN g i n := by
  have : f = g := funext h
  rw [this]

/-- Is the contact live and in bucket t? in bucket f or a later one? -/
def inB (t : Nat) (e : Nat × Bool) : Bool := e.1 % 160 == t && !e.2
def fromB (f : Nat) (e : Nat × Bool) : Bool := decide (f ≤ e.1 % 160) && !e.2

theorem nlive_flTo (ps : List (Nat × Bool)) (t : Nat) : nlive (flTo ps t) = ps.countP (inB t) := by
  simp only [nlive, flTo, List.countP_map, List.countP_filter]
  apply List.countP_congr
  intro e _
  simp [inB, Function.comp, and_comm]

theorem sum_from (ps : List (Nat × Bool)) (f : Nat) (hf : f ≤ 160) : sumN (fun t => nlive (flTo ps t)) f (160 - f) = ps.countP (fromB f) := by
  induction ps with
  | nil =>
    rw [sumN_congr _ (fun t => if 0 = t then 0 else 0) _ _ (fun t => by simp [nlive, flTo]), sumN_one]
    simp
  | cons e ps ih =>
    rw [List.countP_cons, ← ih]
    have e1 : ∀ t, nlive (flTo (e :: ps) t) = nlive (flTo ps t) + (if e.1 % 160 = t then (if e.2 then 0 else 1) else 0) := fun t => by
      rw [nlive_flTo, nlive_flTo, List.countP_cons]
      congr 1
      cases h : e.2 <;> by_cases h2 : e.1 % 160 = t <;> simp [inB, h, h2]
    rw [sumN_congr _ _ _ _ e1, sumN_add, sumN_one]
    congr 1
    have hb : e.1 % 160 < 160 := Nat.mod_lt _ (by decide)
    cases h : e.2
    · by_cases h2 : f ≤ e.1 % 160
      · rw [if_pos (by omega)]; simp [fromB, h, h2]
      · rw [if_neg (by omega)]; simp [fromB, h, h2]
    · simp [fromB, h]

theorem sum_step (ps : List (Nat × Bool)) (j : Nat) (hj : j < 160) : sumN (fun t => nlive (flTo ps t)) j (160 - j) = ps.countP (inB j) + sumN (fun t => nlive (flTo ps t)) (j + 1) (160 - (j + 1)) := by
  have : 160 - j = (160 - (j + 1)) + 1 := by omega
  rw [this, sumN_head, nlive_flTo]

theorem countP_take (p : Nat × Bool → Bool) (l : List (Nat × Bool)) (k : Nat) (hk : k < l.length) : (l.take (k + 1)).countP p = (l.take k).countP p + (if p l[k] then 1 else 0) := by
  rw [List.take_succ_eq_append_getElem hk, List.countP_append]
  simp [List.countP_cons]

end Go.Proofs.Ybulkapdw
