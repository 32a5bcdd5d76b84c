/- The plain law of LawS2036AGreedyTopo: orders, no Go in sight. -/
import Derived.Test.YbulkapdiFront
namespace Go.Proofs.Ybulkapdi

theorem mid_bit (b y : Nat) : (if y / 64 = b / 64 then 2 ^ (b % 64) else 0 : Nat).testBit (y % 64) = decide (y = b) := by
  by_cases h : y = b
  · subst h; simp
  · by_cases h2 : y / 64 = b / 64
    · have : ¬ b % 64 = y % 64 := by omega
      simp [h2, h, this]
    · simp [h2, h]

theorem rel_addTo (R : Nat → Nat → Nat) (a b n x y : Nat) (hx : x < n) :
    rel (addTo R a b n) x y = true ↔ rel R x y = true ∨ ((x = a ∨ rel R x a = true) ∧ (y = b ∨ rel R b y = true)) := by
  by_cases h : x = a ∨ rel R x a = true
  · have e : addTo R a b n x (y / 64) = orb R b x (y / 64) ||| R b (y / 64) := by unfold addTo; rw [if_pos ⟨hx, h⟩]
    unfold rel at *
    rw [e, Nat.testBit_or, orb, Nat.testBit_or, mid_bit]
    simp only [Bool.or_eq_true, decide_eq_true_eq]
    constructor
    · rintro ((h1 | h1) | h1)
      · exact Or.inl h1
      · exact Or.inr ⟨h, Or.inl h1⟩
      · exact Or.inr ⟨h, Or.inr h1⟩
    · rintro (h1 | ⟨_, h1 | h1⟩)
      · exact Or.inl (Or.inl h1)
      · exact Or.inl (Or.inr h1)
      · exact Or.inr h1
  · have e : addTo R a b n x (y / 64) = R x (y / 64) := by unfold addTo; rw [if_neg (fun hh => h hh.2)]
    have e2 : rel (addTo R a b n) x y = rel R x y := by unfold rel; rw [e]
    rw [e2]
    exact ⟨Or.inl, fun hh => hh.resolve_right (fun h2 => h h2.1)⟩

def Dom (n : Nat) (es : List (Nat × Nat)) : Prop := ∀ e ∈ es, e.1 < n ∧ e.2 < n ∧ e.1 ≠ e.2

theorem addAll_some_of_rank (n : Nat) (rank : Nat → Nat) (es : List (Nat × Nat)) (hd : Dom n es) (hr : ∀ e ∈ es, rank e.1 < rank e.2) :
    ∀ R : Nat → Nat → Nat, (∀ x y, x < n → y < n → rel R x y = true → rank x < rank y) → ∃ R', addAll n es R = some R' := by
  induction es with
  | nil => intro R _; exact ⟨R, rfl⟩
  | cons e es ih =>
    intro R hR
    obtain ⟨h1, h2, h3⟩ := hd e (by simp)
    have hre := hr e (by simp)
    have hno : ¬ rel R e.2 e.1 = true := fun hh => by have := hR _ _ h2 h1 hh; omega
    rw [addAll, if_neg hno]
    refine ih (fun x hx => hd x (by simp [hx])) (fun x hx => hr x (by simp [hx])) _ ?_
    intro x y hx hy hxy
    unfold addR at hxy
    rw [if_neg hno] at hxy
    by_cases h4 : rel R e.1 e.2 = true
    · rw [if_pos h4] at hxy; exact hR x y hx hy hxy
    · rw [if_neg h4] at hxy
      rcases (rel_addTo R e.1 e.2 n x y hx).1 hxy with h5 | ⟨h5, h6⟩
      · exact hR x y hx hy h5
      · have q1 : rank x ≤ rank e.1 := by
          rcases h5 with h5 | h5
          · rw [h5]; exact Nat.le_refl _
          · exact Nat.le_of_lt (hR x e.1 hx h1 h5)
        have q2 : rank e.2 ≤ rank y := by
          rcases h6 with h6 | h6
          · rw [h6]; exact Nat.le_refl _
          · exact Nat.le_of_lt (hR e.2 y h2 hy h6)
        omega

structure Good (n : Nat) (R : Nat → Nat → Nat) (es : List (Nat × Nat)) : Prop where
  trans : ∀ x y z, x < n → y < n → z < n → rel R x y = true → rel R y z = true → rel R x z = true
  irr : ∀ x, x < n → ¬ rel R x x = true
  inc : ∀ e ∈ es, rel R e.1 e.2 = true
  into : ∀ x y, x < n → y < n → rel R x y = true → ∃ e ∈ es, e.2 = y

theorem Good.step {n : Nat} {R : Nat → Nat → Nat} {es : List (Nat × Nat)} (h : Good n R es) {a b : Nat} (ha : a < n) (hb : b < n) (hab : a ≠ b) (hno : ¬ rel R b a = true) :
    Good n (addR R a b n) (es ++ [(a, b)]) := by
  unfold addR
  rw [if_neg hno]
  by_cases h4 : rel R a b = true
  · rw [if_pos h4]
    refine ⟨h.trans, h.irr, fun e he => ?_, fun x y hx hy hxy => ?_⟩
    · rcases List.mem_append.1 he with he | he
      · exact h.inc e he
      · simp at he; subst he; exact h4
    · obtain ⟨e, he, h1⟩ := h.into x y hx hy hxy
      exact ⟨e, by simp [he], h1⟩
  · rw [if_neg h4]
    refine ⟨fun x y z hx hy hz hxy hyz => ?_, fun x hx hxx => ?_, fun e he => ?_, fun x y hx hy hxy => ?_⟩
    · rw [rel_addTo R a b n x y hx] at hxy
      rw [rel_addTo R a b n y z hy] at hyz
      rw [rel_addTo R a b n x z hx]
      rcases hxy with hxy | ⟨hxa, hby⟩
      · rcases hyz with hyz | ⟨hya, hbz⟩
        · exact Or.inl (h.trans x y z hx hy hz hxy hyz)
        · refine Or.inr ⟨?_, hbz⟩
          rcases hya with rfl | hya
          · exact Or.inr hxy
          · exact Or.inr (h.trans x y a hx hy ha hxy hya)
      · rcases hyz with hyz | ⟨_, hbz⟩
        · refine Or.inr ⟨hxa, ?_⟩
          rcases hby with rfl | hby
          · exact Or.inr hyz
          · exact Or.inr (h.trans b y z hb hy hz hby hyz)
        · exact Or.inr ⟨hxa, hbz⟩
    · rw [rel_addTo R a b n x x hx] at hxx
      rcases hxx with hxx | ⟨h1, h2⟩
      · exact h.irr x hx hxx
      · rcases h1 with rfl | h1
        · rcases h2 with rfl | h2
          · exact hab rfl
          · exact hno h2
        · rcases h2 with rfl | h2
          · exact hno h1
          · exact hno (h.trans b x a hb hx ha h2 h1)
    · rcases List.mem_append.1 he with he | he
      · by_cases hlt : e.1 < n
        · rw [rel_addTo R a b n _ _ hlt]; exact Or.inl (h.inc e he)
        · have e2 : rel (addTo R a b n) e.1 e.2 = rel R e.1 e.2 := by
            unfold rel addTo; rw [if_neg (fun hh => hlt hh.1)]
          rw [e2]; exact h.inc e he
      · simp at he; subst he
        rw [rel_addTo R a b n _ _ ha]; exact Or.inr ⟨Or.inl rfl, Or.inl rfl⟩
    · rw [rel_addTo R a b n x y hx] at hxy
      rcases hxy with hxy | ⟨_, h2⟩
      · obtain ⟨e, he, h1⟩ := h.into x y hx hy hxy
        exact ⟨e, by simp [he], h1⟩
      · rcases h2 with rfl | h2
        · exact ⟨(a, y), by simp, rfl⟩
        · obtain ⟨e, he, h1⟩ := h.into b y hb hy h2
          exact ⟨e, by simp [he], h1⟩

theorem Good.all {n : Nat} (es : List (Nat × Nat)) (hd : Dom n es) : ∀ (es0 : List (Nat × Nat)) (R R' : Nat → Nat → Nat), Good n R es0 → addAll n es R = some R' → Good n R' (es0 ++ es) := by
  induction es with
  | nil => intro es0 R R' h e; simp only [addAll, Option.some.injEq] at e; subst e; simpa using h
  | cons e es ih =>
    intro es0 R R' h he
    obtain ⟨h1, h2, h3⟩ := hd e (by simp)
    rw [addAll] at he
    by_cases hno : rel R e.2 e.1 = true
    · rw [if_pos hno] at he; cases he
    · rw [if_neg hno] at he
      have := ih (fun x hx => hd x (by simp [hx])) _ _ _ (h.step h1 h2 h3 hno) he
      simpa [List.append_assoc] using this

theorem good_zero (n : Nat) : Good n (fun _ _ => 0) [] := by
  refine ⟨fun x y z _ _ _ h => ?_, fun x _ h => ?_, fun e he => ?_, fun x y _ _ h => ?_⟩
  · simp [rel] at h
  · simp [rel] at h
  · simp at he
  · simp [rel] at h

/-- A strict order on the numbers below n has a rank. -/
def rankOf (n : Nat) (R : Nat → Nat → Nat) (x : Nat) : Nat := ((List.range n).filter fun y => rel R y x).length

theorem filter_lt {l : List Nat} {p q : Nat → Bool} (h : ∀ x ∈ l, p x = true → q x = true) {a : Nat} (ha : a ∈ l) (h1 : p a = false) (h2 : q a = true) : (l.filter p).length < (l.filter q).length := by
  induction l with
  | nil => cases ha
  | cons x l ih =>
    have hle : (l.filter p).length ≤ (l.filter q).length := by
      clear ih ha
      induction l with
      | nil => simp
      | cons y l ih2 =>
        have hy := h y (by simp)
        have := ih2 (fun z hz => h z (by rcases List.mem_cons.1 hz with rfl | hz; · simp
                                         · simp [hz]))
        cases e1 : p y <;> cases e2 : q y
        · simp [e1, e2]; omega
        · simp [e1, e2]; omega
        · rw [hy e1] at e2; cases e2
        · simp [e1, e2]; omega
    by_cases e : a = x
    · subst e
      simp [h1, h2]; omega
    · have ha' : a ∈ l := by rcases List.mem_cons.1 ha with h | h; · exact absurd h e
                             · exact h
      have := ih (fun z hz => h z (by simp [hz])) ha'
      have hx := h x (by simp)
      cases e1 : p x <;> cases e2 : q x
      · simp [e1, e2]; omega
      · simp [e1, e2]; omega
      · rw [hx e1] at e2; cases e2
      · simp [e1, e2]; omega

theorem Good.rank {n : Nat} {R : Nat → Nat → Nat} {es : List (Nat × Nat)} (h : Good n R es) (hd : Dom n es) : ∀ e ∈ es, rankOf n R e.1 < rankOf n R e.2 := by
  intro e he
  obtain ⟨h1, h2, _⟩ := hd e he
  have hr := h.inc e he
  refine filter_lt (a := e.1) (fun x hx hxe => h.trans x e.1 e.2 (by simpa using hx) h1 h2 hxe hr) (by simpa using h1) ?_ hr
  have := h.irr e.1 h1
  simpa using this

/-! ### The greedy order -/
def setP (pl : Nat → Bool) (t : Nat) : Nat → Bool := fun x => if x = t then true else pl x
def free (preds : Nat → List Nat) (pl : Nat → Bool) (t : Nat) : Bool := !pl t && (preds t).all fun p => pl p
def nextP (m : Nat) (preds : Nat → List Nat) (pl : Nat → Bool) : Option Nat := (List.range m).find? (free preds pl)
def greedy (m : Nat) (preds : Nat → List Nat) : Nat → (Nat → Bool) → List Nat → Option ((Nat → Bool) × List Nat)
  | 0, pl, o => some (pl, o)
  | k + 1, pl, o => (nextP m preds pl).bind fun t => greedy m preds k (setP pl t) (o ++ [t])

theorem nextP_spec {m : Nat} {preds : Nat → List Nat} {pl : Nat → Bool} {t : Nat} (h : nextP m preds pl = some t) : t < m ∧ pl t = false ∧ ∀ p ∈ preds t, pl p = true := by
  have h1 := List.mem_of_find?_eq_some h
  have h2 := List.find?_some h
  simp only [free, Bool.and_eq_true, Bool.not_eq_true', List.all_eq_true] at h2
  exact ⟨by simpa using h1, h2.1, h2.2⟩

theorem greedy_mono {m : Nat} {preds : Nat → List Nat} : ∀ (k : Nat) (pl : Nat → Bool) (o : List Nat) (pl' : Nat → Bool) (o' : List Nat), greedy m preds k pl o = some (pl', o') → ∀ x, pl x = true → pl' x = true := by
  intro k
  induction k with
  | zero => intro pl o pl' o' h x hx; simp only [greedy, Option.some.injEq, Prod.mk.injEq] at h; rw [← h.1]; exact hx
  | succ k ih =>
    intro pl o pl' o' h x hx
    rw [greedy] at h
    cases hn : nextP m preds pl with
    | none => rw [hn] at h; cases h
    | some t =>
      rw [hn] at h
      refine ih _ _ _ _ h x ?_
      unfold setP; split
      · rfl
      · exact hx

theorem greedy_rank {m : Nat} {preds : Nat → List Nat} : ∀ (k : Nat) (pl : Nat → Bool) (o : List Nat) (pl' : Nat → Bool) (o' : List Nat), greedy m preds k pl o = some (pl', o') →
    ∃ rank : Nat → Nat, ∀ t, pl t = false → pl' t = true → ∀ p ∈ preds t, pl p = true ∨ (pl p = false ∧ rank p < rank t) := by
  intro k
  induction k with
  | zero =>
    intro pl o pl' o' h
    simp only [greedy, Option.some.injEq, Prod.mk.injEq] at h
    refine ⟨fun _ => 0, fun t h1 h2 => ?_⟩
    rw [← h.1, h1] at h2; cases h2
  | succ k ih =>
    intro pl o pl' o' h
    rw [greedy] at h
    cases hn : nextP m preds pl with
    | none => rw [hn] at h; cases h
    | some t0 =>
      rw [hn] at h
      obtain ⟨_, hf, hp⟩ := nextP_spec hn
      obtain ⟨rank, hr⟩ := ih _ _ _ _ h
      refine ⟨fun x => if x = t0 then 0 else rank x + 1, fun t h1 h2 p hpp => ?_⟩
      by_cases e : t = t0
      · subst e; exact Or.inl (hp p hpp)
      · have h3 := hr t (by simp [setP, e, h1]) h2 p hpp
        by_cases e2 : p = t0
        · subst e2
          exact Or.inr ⟨hf, by simp [e]⟩
        · simp only [setP, e2, if_false] at h3
          rcases h3 with h3 | ⟨h3, h4⟩
          · exact Or.inl h3
          · exact Or.inr ⟨h3, by simp [e, e2, h4]⟩

def left (m : Nat) (pl : Nat → Bool) : Nat := ((List.range m).filter fun x => !pl x).length

theorem left_set (m : Nat) (pl : Nat → Bool) (t : Nat) (ht : t < m) (hp : pl t = false) : left m (setP pl t) + 1 = left m pl := by
  induction m with
  | zero => omega
  | succ m ih =>
    unfold left at *
    simp only [List.range_succ, List.filter_append, List.length_append]
    by_cases e : t = m
    · subst e
      have : (List.range t).filter (fun x => !setP pl t x) = (List.range t).filter (fun x => !pl x) := by
        apply List.filter_congr
        intro x hx
        have : ¬ x = t := by have : x < t := by simpa using hx
                             omega
        simp [setP, this]
      rw [this]
      simp [setP, hp]
    · have h1 := ih (by omega)
      have h2 : ¬ m = t := fun h => e h.symm
      have h3 : setP pl t m = pl m := by simp [setP, h2]
      simp only [List.filter_cons, h3, List.filter_nil]
      omega

theorem left_zero {m : Nat} {pl : Nat → Bool} (h : left m pl = 0) (x : Nat) (hx : x < m) : pl x = true := by
  unfold left at h
  have h1 := List.length_eq_zero_iff.1 h
  have h2 := List.filter_eq_nil_iff.1 h1 x (by simpa using hx)
  simpa using h2

theorem greedy_left {m : Nat} {preds : Nat → List Nat} : ∀ (k : Nat) (pl : Nat → Bool) (o : List Nat) (pl' : Nat → Bool) (o' : List Nat), greedy m preds k pl o = some (pl', o') → left m pl' + k = left m pl ∧ o'.length = o.length + k := by
  intro k
  induction k with
  | zero => intro pl o pl' o' h; simp only [greedy, Option.some.injEq, Prod.mk.injEq] at h; rw [← h.1, ← h.2]; simp
  | succ k ih =>
    intro pl o pl' o' h
    rw [greedy] at h
    cases hn : nextP m preds pl with
    | none => rw [hn] at h; cases h
    | some t =>
      rw [hn] at h
      obtain ⟨h1, h2, _⟩ := nextP_spec hn
      have := ih _ _ _ _ h
      have h3 := left_set m pl t h1 h2
      simp only [List.length_append, List.length_cons, List.length_nil] at this
      omega

theorem left_all (m : Nat) : left m (fun _ => false) = m := by
  unfold left
  rw [List.filter_eq_self.2 (by simp)]
  simp

/-- A ranked graph always has a free one among those that are left. -/
theorem free_exists {m : Nat} {preds : Nat → List Nat} (rank : Nat → Nat) (hr : ∀ t, t < m → ∀ p ∈ preds t, p < m ∧ rank p < rank t) (pl : Nat → Bool) :
    ∀ (N x : Nat), x < m → pl x = false → rank x ≤ N → ∃ y, y < m ∧ free preds pl y = true := by
  intro N
  induction N with
  | zero =>
    intro x hx hp hN
    refine ⟨x, hx, ?_⟩
    simp only [free, hp, Bool.not_false, Bool.true_and, List.all_eq_true]
    intro p hpp
    have := hr x hx p hpp
    omega
  | succ N ih =>
    intro x hx hp hN
    by_cases hf : free preds pl x = true
    · exact ⟨x, hx, hf⟩
    · simp only [free, hp, Bool.not_false, Bool.true_and, Bool.not_eq_true, List.all_eq_false] at hf
      obtain ⟨p, hpp, hpf⟩ := hf
      obtain ⟨h1, h2⟩ := hr x hx p hpp
      exact ih p h1 (by simpa using hpf) (by omega)

theorem nextP_some {m : Nat} {preds : Nat → List Nat} (rank : Nat → Nat) (hr : ∀ t, t < m → ∀ p ∈ preds t, p < m ∧ rank p < rank t) (pl : Nat → Bool) (h : 0 < left m pl) : ∃ t, nextP m preds pl = some t := by
  have : ∃ x, x < m ∧ pl x = false := by
    unfold left at h
    obtain ⟨x, hx⟩ := List.exists_mem_of_length_pos h
    have := List.mem_filter.1 hx
    exact ⟨x, by simpa using this.1, by simpa using this.2⟩
  obtain ⟨x, hx, hp⟩ := this
  obtain ⟨y, hy, hf⟩ := free_exists rank hr pl (rank x) x hx hp (Nat.le_refl _)
  cases hn : nextP m preds pl with
  | some t => exact ⟨t, rfl⟩
  | none =>
    have := List.find?_eq_none.1 hn y (by simpa using hy)
    exact absurd hf this

theorem greedy_some {m : Nat} {preds : Nat → List Nat} (rank : Nat → Nat) (hr : ∀ t, t < m → ∀ p ∈ preds t, p < m ∧ rank p < rank t) : ∀ (k : Nat) (pl : Nat → Bool) (o : List Nat), k ≤ left m pl → ∃ pl' o', greedy m preds k pl o = some (pl', o') := by
  intro k
  induction k with
  | zero => intro pl o _; exact ⟨pl, o, rfl⟩
  | succ k ih =>
    intro pl o hk
    obtain ⟨t, ht⟩ := nextP_some rank hr pl (by omega)
    obtain ⟨h1, h2, _⟩ := nextP_spec ht
    have := left_set m pl t h1 h2
    obtain ⟨pl', o', h⟩ := ih (setP pl t) (o ++ [t]) (by omega)
    exact ⟨pl', o', by rw [greedy, ht]; exact h⟩

/-! ### The edges -/
theorem mem_edgesTo {preds : Nat → List Nat} {pl : Nat → Bool} {m : Nat} {e : Nat × Nat} : e ∈ edgesTo preds pl m ↔ e.2 < m ∧ pl e.2 = false ∧ e.1 ∈ preds e.2 ∧ pl e.1 = false := by
  obtain ⟨p, t⟩ := e
  simp only [edgesTo, List.mem_flatMap, List.mem_range, edgeOf]
  constructor
  · rintro ⟨s, hs, h⟩
    split at h
    · cases h
    · rename_i hps
      simp only [List.mem_map, List.mem_filter, Prod.mk.injEq] at h
      obtain ⟨q, ⟨hq, hq2⟩, rfl, rfl⟩ := h
      exact ⟨hs, by simpa using hps, hq, by simpa using hq2⟩
  · rintro ⟨h1, h2, h3, h4⟩
    refine ⟨t, h1, ?_⟩
    have h2' : pl t = false := h2
    have h4' : pl p = false := h4
    simp only [h2', Bool.false_eq_true, if_false, List.mem_map, List.mem_filter, Prod.mk.injEq]
    exact ⟨p, ⟨h3, by simp [h4']⟩, by simp⟩

theorem dom_edgesTo {preds : Nat → List Nat} {pl : Nat → Bool} {m : Nat} (hpr : ∀ t p, t < m → p ∈ preds t → p < m ∧ p ≠ t) : Dom m (edgesTo preds pl m) := by
  intro e he
  obtain ⟨h1, _, h3, _⟩ := mem_edgesTo.1 he
  obtain ⟨h4, h5⟩ := hpr e.2 e.1 h1 h3
  exact ⟨h4, h1, h5⟩

/-- With a rank the closure of what is left is made without a cycle. -/
theorem addAll_ranked {m : Nat} {preds : Nat → List Nat} (rank : Nat → Nat) (hr : ∀ t, t < m → ∀ p ∈ preds t, p < m ∧ rank p < rank t) (pl : Nat → Bool) : ∃ R, addAll m (edgesTo preds pl m) (fun _ _ => 0) = some R := by
  have hpr : ∀ t p, t < m → p ∈ preds t → p < m ∧ p ≠ t := fun t p ht hp => by
    have := hr t ht p hp
    exact ⟨this.1, fun e => by rw [e] at this; omega⟩
  refine addAll_some_of_rank m rank _ (dom_edgesTo hpr) (fun e he => ?_) _ (fun x y _ _ h => by simp [rel] at h)
  obtain ⟨h1, _, h3, _⟩ := mem_edgesTo.1 he
  exact (hr e.2 h1 e.1 h3).2

/-- The first closure was made: so there is a rank. -/
theorem rank_of_addAll {m : Nat} {preds : Nat → List Nat} (hpr : ∀ t p, t < m → p ∈ preds t → p < m ∧ p ≠ t) {R : Nat → Nat → Nat} (h : addAll m (edgesTo preds (fun _ => false) m) (fun _ _ => 0) = some R) :
    ∃ rank : Nat → Nat, ∀ t, t < m → ∀ p ∈ preds t, p < m ∧ rank p < rank t := by
  have hd := dom_edgesTo (pl := fun _ => false) hpr
  have hg := Good.all _ hd [] _ _ (good_zero m) h
  refine ⟨rankOf m R, fun t ht p hp => ⟨(hpr t p ht hp).1, ?_⟩⟩
  have := hg.rank (by simpa using hd) (p, t) (by simpa using mem_edgesTo.2 ⟨ht, rfl, hp, rfl⟩)
  simpa using this

/-- The first closure was not made: so the greedy order comes to a stop. -/
theorem greedy_none {m : Nat} {preds : Nat → List Nat} (hpr : ∀ t p, t < m → p ∈ preds t → p < m ∧ p ≠ t) (h : addAll m (edgesTo preds (fun _ => false) m) (fun _ _ => 0) = none) :
    greedy m preds m (fun _ => false) [] = none := by
  cases hg : greedy m preds m (fun _ => false) [] with
  | none => rfl
  | some q =>
    obtain ⟨pl', o'⟩ := q
    obtain ⟨rank, hr⟩ := greedy_rank _ _ _ _ _ hg
    have hl := (greedy_left _ _ _ _ _ hg).1
    rw [left_all] at hl
    have hall := left_zero (m := m) (pl := pl') (by omega)
    obtain ⟨R, hR⟩ := addAll_ranked rank (fun t ht p hp => ⟨(hpr t p ht hp).1, by
      rcases hr t rfl (hall t ht) p hp with h | ⟨_, h⟩
      · cases h
      · exact h⟩) (fun _ => false)
    rw [h] at hR; cases hR

/-- The frontier's list is that of the free ones. -/
theorem ready_free {m : Nat} {preds : Nat → List Nat} {pl : Nat → Bool} (hpr : ∀ t p, t < m → p ∈ preds t → p < m ∧ p ≠ t) {R : Nat → Nat → Nat} (h : addAll m (edgesTo preds pl m) (fun _ _ => 0) = some R) (t : Nat) (ht : t < m) :
    isReady R m pl t = free preds pl t := by
  have hd := dom_edgesTo (pl := pl) hpr
  have hg := Good.all _ hd [] _ _ (good_zero m) h
  simp only [List.nil_append] at hg
  unfold isReady free
  cases hp : pl t
  · simp only [Bool.not_false, Bool.true_and]
    rw [Bool.eq_iff_iff]
    simp only [Bool.not_eq_true', List.all_eq_true]
    constructor
    · intro h1 p hpp
      cases hq : pl p
      · have := (hg.inc (p, t) (mem_edgesTo.2 ⟨ht, hp, hpp, hq⟩))
        have h2 := (testBit_orUp R m (t / 64) (t % 64)).2 ⟨p, (hpr t p ht hpp).1, this⟩
        rw [h1] at h2; cases h2
      · rfl
    · intro h1
      cases hq : (orUp R m (t / 64)).testBit (t % 64)
      · rfl
      · obtain ⟨x, hx, hxt⟩ := (testBit_orUp R m (t / 64) (t % 64)).1 hq
        obtain ⟨e, he, h2⟩ := hg.into x t hx ht hxt
        obtain ⟨_, _, h3, h4⟩ := mem_edgesTo.1 he
        rw [h2] at h3
        rw [h1 _ h3] at h4; cases h4
  · simp

theorem readyTo_free {m : Nat} {preds : Nat → List Nat} {pl : Nat → Bool} (hpr : ∀ t p, t < m → p ∈ preds t → p < m ∧ p ≠ t) {R : Nat → Nat → Nat} (h : addAll m (edgesTo preds pl m) (fun _ _ => 0) = some R) :
    readyTo R m pl m = (List.range m).filter (free preds pl) := by
  unfold readyTo
  apply List.filter_congr
  intro x hx
  exact ready_free hpr h x (by simpa using hx)

theorem ready_head {m : Nat} {preds : Nat → List Nat} {pl : Nat → Bool} (hpr : ∀ t p, t < m → p ∈ preds t → p < m ∧ p ≠ t) {R : Nat → Nat → Nat} (h : addAll m (edgesTo preds pl m) (fun _ _ => 0) = some R) {t : Nat} (ht : nextP m preds pl = some t) :
    ∃ rest, readyTo R m pl m = t :: rest := by
  rw [readyTo_free hpr h]
  have : ((List.range m).filter (free preds pl)).head? = some t := by rw [List.head?_filter]; exact ht
  cases hl : (List.range m).filter (free preds pl) with
  | nil => rw [hl] at this; cases this
  | cons a r => rw [hl] at this; simp at this; subst this; exact ⟨r, rfl⟩

/-- One step more at the end. -/
theorem greedy_snoc {m : Nat} {preds : Nat → List Nat} : ∀ (k : Nat) (pl : Nat → Bool) (o : List Nat), greedy m preds (k + 1) pl o = (greedy m preds k pl o).bind fun q => (nextP m preds q.1).map fun t => (setP q.1 t, q.2 ++ [t]) := by
  intro k
  induction k with
  | zero =>
    intro pl o
    simp only [greedy, Option.bind_some]
    cases nextP m preds pl <;> rfl
  | succ k ih =>
    intro pl o
    rw [greedy]
    conv => rhs; rw [greedy]
    cases nextP m preds pl with
    | none => rfl
    | some t => simp only [Option.bind_some]; exact ih _ _

end Go.Proofs.Ybulkapdi
