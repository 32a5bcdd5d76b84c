/- The plain law of LawS2036BUnlinks: sorted lists of keys. -/
import Derived.Test.YbulkapdiKFind
namespace Go.Proofs.Ybulkapdi.K

theorem bl_cons (x y : UInt8) (a b : List UInt8) : Op.bytesLess (x :: a) (y :: b) = true ↔ x.toNat < y.toNat ∨ (x = y ∧ Op.bytesLess a b = true) := by
  simp [Op.bytesLess, UInt8.lt_iff_toNat_lt]

theorem bl_irr : ∀ l : List UInt8, ¬ Op.bytesLess l l = true := by
  intro l
  induction l with
  | nil => simp [Op.bytesLess]
  | cons a l ih => rw [bl_cons]; rintro (h | ⟨_, h⟩); · omega
                   · exact ih h

theorem bl_tot : ∀ a b : List UInt8, ¬ Op.bytesLess a b = true → a ≠ b → Op.bytesLess b a = true := by
  intro a
  induction a with
  | nil =>
    intro b h hne
    cases b with
    | nil => exact absurd rfl hne
    | cons y b => simp [Op.bytesLess] at h
  | cons x a ih =>
    intro b h hne
    cases b with
    | nil => simp [Op.bytesLess]
    | cons y b =>
      rw [bl_cons] at h ⊢
      by_cases e : x = y
      · subst e
        exact Or.inr ⟨rfl, ih b (fun h2 => h (Or.inr ⟨rfl, h2⟩)) (fun e => hne (by rw [e]))⟩
      · left
        have : x.toNat ≠ y.toNat := fun e2 => e (UInt8.toNat_inj.1 e2)
        have : ¬ x.toNat < y.toNat := fun h2 => h (Or.inl h2)
        omega

theorem bl_trans : ∀ a b c : List UInt8, Op.bytesLess a b = true → Op.bytesLess b c = true → Op.bytesLess a c = true := by
  intro a
  induction a with
  | nil =>
    intro b c h1 h2
    cases c with
    | nil => cases b <;> simp [Op.bytesLess] at h2
    | cons z c => simp [Op.bytesLess]
  | cons x a ih =>
    intro b c h1 h2
    cases b with
    | nil => simp [Op.bytesLess] at h1
    | cons y b =>
      cases c with
      | nil => simp [Op.bytesLess] at h2
      | cons z c =>
        rw [bl_cons] at h1 h2 ⊢
        rcases h1 with h1 | ⟨rfl, h1⟩
        · rcases h2 with h2 | ⟨rfl, _⟩
          · left; omega
          · left; exact h1
        · rcases h2 with h2 | ⟨rfl, h2⟩
          · left; exact h2
          · right; exact ⟨rfl, ih b c h1 h2⟩

theorem lt_def (a b : List UInt8) : ltK a b = true ↔ pre a < pre b ∨ (pre a = pre b ∧ Op.bytesLess a b = true) := by
  unfold ltK
  by_cases h : pre a = pre b
  · rw [if_pos h]; constructor
    · intro h2; exact Or.inr ⟨h, h2⟩
    · rintro (h2 | ⟨_, h2⟩)
      · omega
      · exact h2
  · rw [if_neg h]; simp only [decide_eq_true_eq]; constructor
    · exact Or.inl
    · rintro (h2 | ⟨h2, _⟩)
      · exact h2
      · exact absurd h2 h

theorem lt_irr (a : List UInt8) : ltK a a = false := by
  cases h : ltK a a
  · rfl
  · rw [lt_def] at h
    rcases h with h | ⟨_, h⟩
    · omega
    · exact absurd h (bl_irr a)

theorem lt_tot {a b : List UInt8} (h : ltK a b = false) (hne : a ≠ b) : ltK b a = true := by
  have h' : ¬ ltK a b = true := by rw [h]; simp
  rw [lt_def] at h' ⊢
  by_cases e : pre a = pre b
  · exact Or.inr ⟨e.symm, bl_tot a b (fun h2 => h' (Or.inr ⟨e, h2⟩)) hne⟩
  · left
    have : ¬ pre a < pre b := fun h2 => h' (Or.inl h2)
    omega

theorem lt_trans {a b c : List UInt8} (h1 : ltK a b = true) (h2 : ltK b c = true) : ltK a c = true := by
  rw [lt_def] at *
  rcases h1 with h1 | ⟨e1, h1⟩
  · rcases h2 with h2 | ⟨e2, _⟩
    · left; omega
    · left; omega
  · rcases h2 with h2 | ⟨e2, h2⟩
    · left; omega
    · right; exact ⟨by omega, bl_trans a b c h1 h2⟩

def Srt (L : List KN) : Prop := ∀ (i j : Nat) (a b : KN), i < j → L[i]? = some a → L[j]? = some b → ltK a.l b.l = true

theorem Srt.nil : Srt [] := by intro i j a b _ h; simp at h

theorem pos_before {L : List KN} {l : List UInt8} {m : Nat} {a : KN} (hm : m < pos L l) (ha : L[m]? = some a) : ltK a.l l = true := by
  unfold pos at hm
  have h1 : (L.takeWhile fun n => ltK n.l l)[m]? = some a := by
    obtain ⟨t, ht⟩ := List.takeWhile_prefix (p := fun n : KN => ltK n.l l) (l := L)
    have h2 : L[m]? = ((L.takeWhile fun n => ltK n.l l) ++ t)[m]? := by rw [ht]
    rw [List.getElem?_append_left hm] at h2
    rw [← h2]; exact ha
  have h3 := List.mem_of_getElem? h1
  have h4 : (L.takeWhile fun n => ltK n.l l).all (fun n => ltK n.l l) = true := List.all_takeWhile
  exact List.all_eq_true.1 h4 a h3

theorem pos_at {L : List KN} {l : List UInt8} {a : KN} (ha : L[pos L l]? = some a) : ltK a.l l = false := by
  induction L with
  | nil => simp at ha
  | cons b L ih =>
    unfold pos at ha
    cases hb : ltK b.l l
    · rw [List.takeWhile_cons_of_neg (p := fun n : KN => ltK n.l l) (by simp [hb])] at ha
      simp at ha; subst ha; exact hb
    · rw [List.takeWhile_cons_of_pos (p := fun n : KN => ltK n.l l) (by simp [hb])] at ha
      exact ih (by simpa [pos] using ha)

theorem after_pos {L : List KN} (hs : Srt L) {l : List UInt8} (hl : ∀ n ∈ L, n.l ≠ l) {m : Nat} {a : KN} (hm : pos L l ≤ m) (ha : L[m]? = some a) : ltK l a.l = true := by
  obtain ⟨hlt, _⟩ := List.getElem?_eq_some_iff.1 ha
  obtain ⟨b, hb⟩ : ∃ b, L[pos L l]? = some b := ⟨_, List.getElem?_eq_getElem (by omega)⟩
  have h1 := lt_tot (pos_at hb) (hl b (List.mem_of_getElem? hb))
  by_cases e : pos L l = m
  · rw [e, ha] at hb; simp at hb; subst hb; exact h1
  · exact lt_trans h1 (hs _ _ b a (by omega) hb ha)

theorem Srt.ins {L : List KN} (hs : Srt L) {n : KN} (hl : ∀ m ∈ L, m.l ≠ n.l) : Srt (ins L (pos L n.l) n) := by
  have hp := pos_le L n.l
  intro i j a b hij ha hb
  rw [ins_get _ _ _ hp] at ha hb
  by_cases i1 : i < pos L n.l
  · rw [if_pos i1] at ha
    by_cases j1 : j < pos L n.l
    · rw [if_pos j1] at hb; exact hs i j a b hij ha hb
    · rw [if_neg j1] at hb
      by_cases j2 : j = pos L n.l
      · rw [if_pos j2] at hb; simp at hb; subst hb; exact pos_before i1 ha
      · rw [if_neg j2] at hb; exact hs i (j - 1) a b (by omega) ha hb
  · rw [if_neg i1] at ha
    rw [if_neg (by omega), if_neg (by omega)] at hb
    by_cases i2 : i = pos L n.l
    · rw [if_pos i2] at ha; simp at ha; subst ha; exact after_pos hs hl (by omega) hb
    · rw [if_neg i2] at ha; exact hs (i - 1) (j - 1) a b (by omega) ha hb

theorem Srt.erase {L : List KN} (hs : Srt L) (k : Nat) : Srt (L.eraseIdx k) := by
  intro i j a b hij ha hb
  rw [erase_get] at ha hb
  by_cases i1 : i < k
  · rw [if_pos i1] at ha
    by_cases j1 : j < k
    · rw [if_pos j1] at hb; exact hs i j a b hij ha hb
    · rw [if_neg j1] at hb; exact hs i (j + 1) a b (by omega) ha hb
  · rw [if_neg i1] at ha; rw [if_neg (by omega)] at hb; exact hs (i + 1) (j + 1) a b (by omega) ha hb

theorem pos_mem {L : List KN} (hs : Srt L) {i : Nat} {n : KN} (hn : L[i]? = some n) : pos L n.l = i := by
  obtain ⟨hlt, _⟩ := List.getElem?_eq_some_iff.1 hn
  exact pos_of (by omega) (fun m a hm ha => hs m i a n hm ha hn) (Or.inr ⟨n, hn, lt_irr _⟩)

theorem found_mem {L : List KN} (hs : Srt L) {n : KN} (hn : n ∈ L) : found L n.l = some ⟨n.g, 0, none⟩ := by
  obtain ⟨i, hi⟩ := List.getElem?_of_mem hn
  unfold found
  rw [pos_mem hs hi, hi]
  simp

theorem found_none {L : List KN} {l : List UInt8} (h : ∀ n ∈ L, n.l ≠ l) : found L l = none := by
  unfold found
  cases hn : L[pos L l]? with
  | none => rfl
  | some n => simp [h n (List.mem_of_getElem? hn)]

theorem found_some {L : List KN} {l : List UInt8} (h : found L l ≠ none) : ∃ n ∈ L, n.l = l := by
  unfold found at h
  cases hn : L[pos L l]? with
  | none => rw [hn] at h; exact absurd rfl h
  | some n =>
    rw [hn] at h
    by_cases e : n.l = l
    · exact ⟨n, List.mem_of_getElem? hn, e⟩
    · simp [e] at h

theorem mem_ins {L : List KN} {i : Nat} {n m : KN} : m ∈ ins L i n ↔ m = n ∨ m ∈ L := by
  unfold ins
  rw [List.mem_append, List.mem_cons]
  constructor
  · rintro (h | h | h)
    · exact Or.inr (List.mem_of_mem_take h)
    · exact Or.inl h
    · exact Or.inr (List.mem_of_mem_drop h)
  · rintro (h | h)
    · exact Or.inr (Or.inl h)
    · rw [← List.take_append_drop i L, List.mem_append] at h
      rcases h with h | h
      · exact Or.inl h
      · exact Or.inr (Or.inr h)

theorem len_ins (L : List KN) (i : Nat) (n : KN) (hi : i ≤ L.length) : (ins L i n).length = L.length + 1 := by
  simp [ins]; omega

theorem mem_erase {L : List KN} {i : Nat} {n m : KN} (hn : L[i]? = some n) (hm : m ∈ L) (hne : m.g ≠ n.g) : m ∈ L.eraseIdx i := by
  obtain ⟨j, hj⟩ := List.getElem?_of_mem hm
  have : j ≠ i := by rintro rfl; rw [hn] at hj; simp at hj; subst hj; exact hne rfl
  by_cases h : j < i
  · exact List.mem_of_getElem? (i := j) (by rw [erase_get, if_pos h]; exact hj)
  · exact List.mem_of_getElem? (i := j - 1) (by rw [erase_get, if_neg (by omega), show j - 1 + 1 = j from by omega]; exact hj)

theorem erase_keys {L : List KN} (hs : Srt L) {i : Nat} {n : KN} (hn : L[i]? = some n) : ∀ m ∈ L.eraseIdx i, m.l ≠ n.l := by
  intro m hm e
  obtain ⟨j, hj⟩ := List.getElem?_of_mem hm
  rw [erase_get] at hj
  by_cases h : j < i
  · rw [if_pos h] at hj
    have := hs j i m n h hj hn
    rw [e, lt_irr] at this; cases this
  · rw [if_neg h] at hj
    have := hs i (j + 1) n m (by omega) hn hj
    rw [e, lt_irr] at this; cases this

end Go.Proofs.Ybulkapdi.K
