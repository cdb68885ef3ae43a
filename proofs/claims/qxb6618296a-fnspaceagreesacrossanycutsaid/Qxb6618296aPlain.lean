/-! The plain law of the scanner's 'space': no Go in sight. -/
namespace Go.Proofs.Qxb6618296a

def wsB (c : Int) : Bool := c == 32 || c == 9 || c == 10 || c == 13

/-- r is the end of the run of whitespace that begins at a, in a text of n bytes. -/
def IsEnd (Z : Nat → Int) (n : Nat) (a r : Int) : Prop :=
  ((n : Int) ≤ a → r = a) ∧ (a < (n : Int) → a ≤ r ∧ r ≤ (n : Int) ∧ (∀ i : Nat, a ≤ (i : Int) → (i : Int) < r → wsB (Z i) = true) ∧ (r < (n : Int) → wsB (Z r.toNat) = false))

theorem end_unique {Z : Nat → Int} {n : Nat} {a r s : Int} (ha : 0 ≤ a) (h : IsEnd Z n a r) (k : IsEnd Z n a s) : r = s := by
  by_cases e : (n : Int) ≤ a
  · rw [h.1 e, k.1 e]
  · obtain ⟨h1, h2, h3, h4⟩ := h.2 (by omega)
    obtain ⟨k1, k2, k3, k4⟩ := k.2 (by omega)
    rcases Int.lt_trichotomy r s with g | g | g
    · have x := k3 r.toNat (by omega) (by omega)
      rw [h4 (by omega)] at x
      cases x
    · exact g
    · have x := h3 s.toNat (by omega) (by omega)
      rw [k4 (by omega)] at x
      cases x

theorem end_ge {Z : Nat → Int} {n : Nat} {a r : Int} (h : IsEnd Z n a r) : a ≤ r := by
  by_cases e : (n : Int) ≤ a
  · rw [h.1 e]; exact Int.le_refl _
  · exact (h.2 (by omega)).1

/-- A second skip from the end moves nothing. -/
theorem end_again {Z : Nat → Int} {n : Nat} {a r s : Int} (ha : 0 ≤ a) (h : IsEnd Z n a r) (k : IsEnd Z n r s) : s = r := by
  have hr := end_ge h
  by_cases e : (n : Int) ≤ r
  · exact k.1 e
  · have e2 : a < (n : Int) := by omega
    have h4 := (h.2 e2).2.2.2 (by omega)
    exact end_unique (by omega) k ⟨fun h => by omega, fun _ => ⟨Int.le_refl _, by omega, fun i h1 h2 => by omega, fun _ => h4⟩⟩

/-- Over the rest of the text the end lies as much earlier. -/
theorem end_rest {Z : Nat → Int} {n c : Nat} {a r s : Int} (hc : c ≤ n) (hca : (c : Int) ≤ a) (h : IsEnd Z n a r) (k : IsEnd (fun i => Z (c + i)) (n - c) (a - c) s) : s + c = r := by
  have hnc : ((n - c : Nat) : Int) = (n : Int) - c := by omega
  refine end_unique (by omega) ?_ h
  constructor
  · intro e
    rw [k.1 (by omega)]; omega
  · intro e
    obtain ⟨k1, k2, k3, k4⟩ := k.2 (by omega)
    refine ⟨by omega, by omega, fun i h1 h2 => ?_, fun h1 => ?_⟩
    · have x : wsB (Z (c + (i - c))) = true := k3 (i - c) (by omega) (by omega)
      have e2 : c + (i - c) = i := by omega
      rw [e2] at x
      exact x
    · have x : wsB (Z (c + s.toNat)) = false := k4 (by omega)
      have e2 : c + s.toNat = (s + c).toNat := by omega
      rw [e2] at x
      exact x

/-- The end lies ahead of the cut: the first part ends there too. -/
theorem end_ahead {Z : Nat → Int} {n c : Nat} {a r s : Int} (ha : 0 ≤ a) (hc : c ≤ n) (hac : a < (c : Int)) (h : IsEnd Z n a r) (hr : r < (c : Int)) (k : IsEnd Z c a s) : s = r := by
  refine end_unique ha k ?_
  obtain ⟨h1, h2, h3, h4⟩ := h.2 (by omega)
  exact ⟨fun e => by omega, fun _ => ⟨h1, by omega, h3, fun _ => h4 (by omega)⟩⟩

/-- The end lies at the cut or behind it: the first part runs into the cut. -/
theorem end_into {Z : Nat → Int} {n c : Nat} {a r s : Int} (ha : 0 ≤ a) (hc : c ≤ n) (hac : a < (c : Int)) (h : IsEnd Z n a r) (hr : ¬ r < (c : Int)) (k : IsEnd Z c a s) : s = (c : Int) := by
  refine end_unique ha k ?_
  obtain ⟨h1, h2, h3, h4⟩ := h.2 (by omega)
  exact ⟨fun e => by omega, fun _ => ⟨by omega, Int.le_refl _, fun i h1 h2 => h3 i h1 (by omega), fun e => by omega⟩⟩

/-- .. and goes on from the cut to the same end. -/
theorem end_on {Z : Nat → Int} {n c : Nat} {a r s : Int} (hc : c ≤ n) (hac : a < (c : Int)) (h : IsEnd Z n a r) (hr : ¬ r < (c : Int)) (k : IsEnd Z n (c : Int) s) : s = r := by
  refine end_unique (by omega) k ?_
  obtain ⟨h1, h2, h3, h4⟩ := h.2 (by omega)
  exact ⟨fun e => by omega, fun _ => ⟨by omega, h2, fun i h1 h2 => h3 i (by omega) h2, h4⟩⟩
end Go.Proofs.Qxb6618296a
