import Derived.Test.Qxb6617707aPlain
/-! The model's answer, kind by kind: no Go in sight. -/
namespace Go.Proofs.Qxb6617707a
section
variable {n m : Nat} {K B : Nat → Int} {S : Nat → Nat → Bool} {T : Nat → Int} {i r : Nat}

theorem mod_zero (j : Nat) : ModP n m K B S T 0 j ↔ j = m := Iff.rfl

theorem mod_succ (hi : n - i = r + 1) (j : Nat) : ModP n m K B S T (r + 1) j ↔ ∃ c, c ≤ m ∧ Piece (K i) (B i) (S i) T m j c ∧ ModP n m K B S T r c := by
  have e : n - (r + 1) = i := by omega
  show (∃ c, c ≤ m ∧ Piece (K (n - (r + 1))) (B (n - (r + 1))) (S (n - (r + 1))) T m j c ∧ ModP n m K B S T r c) ↔ _
  rw [e]

theorem mod_one (hi : n - i = r + 1) (h3 : K i ≠ 3) (h4 : K i ≠ 4) (h5 : K i ≠ 5) (j : Nat) : ModP n m K B S T (r + 1) j ↔ j < m ∧ takesB (K i) (B i) (S i) (T j) = true ∧ ModP n m K B S T r (j + 1) := by
  rw [mod_succ hi]
  unfold Piece
  simp only [if_neg h3, if_neg h4, if_neg h5]
  constructor
  · rintro ⟨c, _, ⟨rfl, h1, h2⟩, h⟩
    exact ⟨h1, h2, h⟩
  · rintro ⟨h1, h2, h⟩
    exact ⟨j + 1, by omega, ⟨rfl, h1, h2⟩, h⟩

theorem mod_star (hi : n - i = r + 1) (h3 : K i = 3) (j : Nat) : ModP n m K B S T (r + 1) j ↔ ∃ c, c ≤ m ∧ j ≤ c ∧ (∀ x, j ≤ x → x < c → T x ≠ 47) ∧ ModP n m K B S T r c := by
  rw [mod_succ hi]
  unfold Piece
  simp only [if_pos h3]
  constructor
  · rintro ⟨c, hc, ⟨h1, h2⟩, h⟩; exact ⟨c, hc, h1, h2, h⟩
  · rintro ⟨c, hc, h1, h2, h⟩; exact ⟨c, hc, ⟨h1, h2⟩, h⟩

theorem mod_any (hi : n - i = r + 1) (h4 : K i = 4) (j : Nat) : ModP n m K B S T (r + 1) j ↔ ∃ c, c ≤ m ∧ j ≤ c ∧ ModP n m K B S T r c := by
  have h3 : K i ≠ 3 := by omega
  rw [mod_succ hi]
  unfold Piece
  simp only [if_neg h3, if_pos h4]

theorem mod_dirs (hi : n - i = r + 1) (h5 : K i = 5) (j : Nat) (hj : j ≤ m) : ModP n m K B S T (r + 1) j ↔ ModP n m K B S T r j ∨ ∃ c, j < c ∧ c ≤ m ∧ T (c - 1) = 47 ∧ ModP n m K B S T r c := by
  have h3 : K i ≠ 3 := by omega
  have h4 : K i ≠ 4 := by omega
  rw [mod_succ hi]
  unfold Piece
  simp only [if_neg h3, if_neg h4, if_pos h5]
  constructor
  · rintro ⟨c, hc, hp, h⟩
    rcases hp with rfl | ⟨h1, h2⟩
    · exact Or.inl h
    · exact Or.inr ⟨c, h1, hc, h2, h⟩
  · rintro (h | ⟨c, h1, hc, h2, h⟩)
    · exact ⟨j, hj, Or.inl rfl, h⟩
    · exact ⟨c, hc, Or.inr ⟨h1, h2⟩, h⟩
end
end Go.Proofs.Qxb6617707a
