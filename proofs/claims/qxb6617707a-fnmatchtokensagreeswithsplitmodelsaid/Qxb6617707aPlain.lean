/-! The plain law of 'FnMatchTokensAgreesWithSplitModel': no Go in sight. -/
namespace Go.Proofs.Qxb6617707a

/-- Does a token of one byte take the byte c? -/
def takesB (k b : Int) (S : Nat → Bool) (c : Int) : Bool := if k = 0 then c == b else if k = 1 then c != 47 else S c.toNat

/-- The next row behind a star (any = false) or an 'anything' (any = true). -/
def starRow (any : Bool) (T : Nat → Int) (cur : Nat → Bool) : Nat → Bool
  | 0 => cur 0
  | j + 1 => cur (j + 1) || (starRow any T cur j && (any || T j != 47))

def reach (cur : Nat → Bool) : Nat → Bool
  | 0 => false
  | j + 1 => reach cur j || cur j

def dirsRow (T : Nat → Int) (cur : Nat → Bool) : Nat → Bool
  | 0 => cur 0
  | j + 1 => cur (j + 1) || (reach cur (j + 1) && T j == 47)

def oneRow (k b : Int) (S : Nat → Bool) (T : Nat → Int) (cur : Nat → Bool) : Nat → Bool
  | 0 => false
  | j + 1 => cur j && takesB k b S (T j)

def stepRow (k b : Int) (S : Nat → Bool) (T : Nat → Int) (cur : Nat → Bool) : Nat → Bool :=
  if k = 3 then starRow false T cur else if k = 4 then starRow true T cur else if k = 5 then dirsRow T cur else oneRow k b S T cur

/-- The row behind the first i tokens. -/
def dp (K B : Nat → Int) (S : Nat → Nat → Bool) (T : Nat → Int) : Nat → Nat → Bool
  | 0 => fun j => j == 0
  | i + 1 => stepRow (K i) (B i) (S i) T (dp K B S T i)

/-- The piece of the text from a to c fits a token. -/
def Piece (k b : Int) (S : Nat → Bool) (T : Nat → Int) (m a c : Nat) : Prop :=
  if k = 3 then a ≤ c ∧ ∀ x, a ≤ x → x < c → T x ≠ 47
  else if k = 4 then a ≤ c
  else if k = 5 then c = a ∨ (a < c ∧ T (c - 1) = 47)
  else c = a + 1 ∧ a < m ∧ takesB k b S (T a) = true

/-- The last r of n tokens can share out the text from j on. -/
def ModP (n m : Nat) (K B : Nat → Int) (S : Nat → Nat → Bool) (T : Nat → Int) : Nat → Nat → Prop
  | 0, j => j = m
  | r + 1, j => ∃ c, c ≤ m ∧ Piece (K (n - (r + 1))) (B (n - (r + 1))) (S (n - (r + 1))) T m j c ∧ ModP n m K B S T r c

theorem starRow_iff (any : Bool) (T : Nat → Int) (cur : Nat → Bool) (c : Nat) :
    starRow any T cur c = true ↔ ∃ a, a ≤ c ∧ cur a = true ∧ (any = true ∨ ∀ x, a ≤ x → x < c → T x ≠ 47) := by
  induction c with
  | zero =>
    constructor
    · intro h
      exact ⟨0, Nat.le_refl _, h, Or.inr (by omega)⟩
    · rintro ⟨a, ha, h, _⟩
      obtain rfl : a = 0 := by omega
      exact h
  | succ c ih =>
    simp only [starRow, Bool.or_eq_true, Bool.and_eq_true, bne_iff_ne, ne_eq, ih]
    constructor
    · rintro (h | ⟨⟨a, ha, hc, hs⟩, ht⟩)
      · exact ⟨c + 1, Nat.le_refl _, h, Or.inr (by omega)⟩
      · refine ⟨a, by omega, hc, ?_⟩
        rcases ht with ht | ht
        · exact Or.inl ht
        · rcases hs with hs | hs
          · exact Or.inl hs
          · refine Or.inr fun x h1 h2 => ?_
            by_cases e : x = c
            · subst e; exact ht
            · exact hs x h1 (by omega)
    · rintro ⟨a, ha, hc, hs⟩
      by_cases e : a = c + 1
      · subst e; exact Or.inl hc
      · refine Or.inr ⟨⟨a, by omega, hc, ?_⟩, ?_⟩
        · rcases hs with hs | hs
          · exact Or.inl hs
          · exact Or.inr fun x h1 h2 => hs x h1 (by omega)
        · rcases hs with hs | hs
          · exact Or.inl hs
          · exact Or.inr (hs c (by omega) (by omega))

theorem reach_iff (cur : Nat → Bool) (c : Nat) : reach cur c = true ↔ ∃ a, a < c ∧ cur a = true := by
  induction c with
  | zero => simp [reach]
  | succ c ih =>
    simp only [reach, Bool.or_eq_true, ih]
    constructor
    · rintro (⟨a, ha, h⟩ | h)
      · exact ⟨a, by omega, h⟩
      · exact ⟨c, by omega, h⟩
    · rintro ⟨a, ha, h⟩
      by_cases e : a = c
      · subst e; exact Or.inr h
      · exact Or.inl ⟨a, by omega, h⟩

theorem stepRow_iff (k b : Int) (S : Nat → Bool) (T : Nat → Int) (cur : Nat → Bool) (m c : Nat) (hc : c ≤ m) :
    stepRow k b S T cur c = true ↔ ∃ a, a ≤ c ∧ cur a = true ∧ Piece k b S T m a c := by
  unfold stepRow Piece
  by_cases h3 : k = 3
  · simp only [if_pos h3]
    rw [starRow_iff]
    constructor
    · rintro ⟨a, ha, h, hs⟩
      rcases hs with hs | hs
      · cases hs
      · exact ⟨a, ha, h, ha, hs⟩
    · rintro ⟨a, ha, h, _, hs⟩
      exact ⟨a, ha, h, Or.inr hs⟩
  · simp only [if_neg h3]
    by_cases h4 : k = 4
    · simp only [if_pos h4]
      rw [starRow_iff]
      constructor
      · rintro ⟨a, ha, h, _⟩
        exact ⟨a, ha, h, ha⟩
      · rintro ⟨a, ha, h, _⟩
        exact ⟨a, ha, h, Or.inl rfl⟩
    · simp only [if_neg h4]
      by_cases h5 : k = 5
      · simp only [if_pos h5]
        cases c with
        | zero =>
          constructor
          · intro h; exact ⟨0, Nat.le_refl _, h, Or.inl rfl⟩
          · rintro ⟨a, ha, h, _⟩
            obtain rfl : a = 0 := by omega
            exact h
        | succ c =>
          simp only [dirsRow, Bool.or_eq_true, Bool.and_eq_true, beq_iff_eq, reach_iff]
          constructor
          · rintro (h | ⟨⟨a, ha, h⟩, ht⟩)
            · exact ⟨c + 1, Nat.le_refl _, h, Or.inl rfl⟩
            · exact ⟨a, by omega, h, Or.inr ⟨ha, by simpa using ht⟩⟩
          · rintro ⟨a, ha, h, hp⟩
            rcases hp with hp | ⟨hp, ht⟩
            · rw [← hp] at h; exact Or.inl h
            · exact Or.inr ⟨⟨a, hp, h⟩, by simpa using ht⟩
      · simp only [if_neg h5]
        cases c with
        | zero =>
          simp only [oneRow]
          constructor
          · intro h; cases h
          · rintro ⟨a, _, _, e, _⟩; omega
        | succ c =>
          simp only [oneRow, Bool.and_eq_true]
          constructor
          · rintro ⟨h, ht⟩
            exact ⟨c, by omega, h, rfl, by omega, ht⟩
          · rintro ⟨a, _, h, e, _, ht⟩
            obtain rfl : a = c := by omega
            exact ⟨h, ht⟩

theorem piece_le {k b : Int} {S : Nat → Bool} {T : Nat → Int} {m a c : Nat} (h : Piece k b S T m a c) : a ≤ c := by
  unfold Piece at h
  split at h
  · exact h.1
  · split at h
    · exact h
    · split at h
      · rcases h with h | h <;> omega
      · omega

section
variable (n m : Nat) (K B : Nat → Int) (S : Nat → Nat → Bool) (T : Nat → Int)

theorem meet_step (i : Nat) (hi : i < n) :
    (∃ a, a ≤ m ∧ dp K B S T i a = true ∧ ModP n m K B S T (n - i) a) ↔ (∃ a, a ≤ m ∧ dp K B S T (i + 1) a = true ∧ ModP n m K B S T (n - (i + 1)) a) := by
  have e : n - i = (n - (i + 1)) + 1 := by omega
  have e2 : n - (n - (i + 1) + 1) = i := by omega
  rw [e]
  constructor
  · rintro ⟨a, ha, hd, c, hc, hp, hm⟩
    rw [e2] at hp
    exact ⟨c, hc, (stepRow_iff _ _ _ _ _ m c hc).2 ⟨a, piece_le hp, hd, hp⟩, hm⟩
  · rintro ⟨c, hc, hd, hm⟩
    obtain ⟨a, ha, hd', hp⟩ := (stepRow_iff _ _ _ _ _ m c hc).1 hd
    exact ⟨a, by omega, hd', c, hc, by rw [e2]; exact hp, hm⟩

theorem meet (i : Nat) (hi : i ≤ n) :
    (∃ a, a ≤ m ∧ dp K B S T 0 a = true ∧ ModP n m K B S T n a) ↔ (∃ a, a ≤ m ∧ dp K B S T i a = true ∧ ModP n m K B S T (n - i) a) := by
  induction i with
  | zero => exact Iff.rfl
  | succ i ih => exact (ih (by omega)).trans (meet_step n m K B S T i (by omega))

/-- THE PLAIN LAW: the row's last bool is the model's answer. -/
theorem dp_iff : dp K B S T n m = true ↔ ModP n m K B S T n 0 := by
  have h := meet n m K B S T n (Nat.le_refl _)
  constructor
  · intro hd
    obtain ⟨a, _, h0, hm⟩ := h.2 ⟨m, Nat.le_refl _, hd, by rw [Nat.sub_self]; exact rfl⟩
    have e : a = 0 := by simpa [dp] using h0
    subst e
    exact hm
  · intro hm
    obtain ⟨a, _, hd, e⟩ := h.1 ⟨0, Nat.zero_le _, rfl, hm⟩
    rw [Nat.sub_self] at e
    have e' : a = m := e
    subst e'
    exact hd

/-- A row without a true cell stays so. -/
theorem dp_dead (i d : Nat) (h : ∀ j, j ≤ m → dp K B S T i j = false) : ∀ j, j ≤ m → dp K B S T (i + d) j = false := by
  induction d with
  | zero => exact h
  | succ d ih =>
    intro j hj
    rw [Bool.eq_false_iff]
    intro hd
    obtain ⟨a, ha, hc, _⟩ := (stepRow_iff _ _ _ _ _ m j hj).1 hd
    have hc' : dp K B S T (i + d) a = true := hc
    rw [ih a (by omega)] at hc'
    cases hc'
end
end Go.Proofs.Qxb6617707a
