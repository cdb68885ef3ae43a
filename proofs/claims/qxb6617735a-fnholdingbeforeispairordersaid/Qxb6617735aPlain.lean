/-! The plain law of 'FnHoldingBeforeIsPairOrder': no Go in sight. -/
namespace Go.Proofs.Qxb6617735a

/-- Each 0 becomes 0, 255; any other byte stays. -/
def escBody : List Int → List Int
  | [] => []
  | b :: l => (if b = 0 then [0, 255] else [b]) ++ escBody l

def esc (l : List Int) : List Int := escBody l ++ [0, 1]

/-- The three-way comparison, byte by byte. -/
def cmpL : List Int → List Int → Int
  | [], [] => 0
  | [], _ :: _ => -1
  | _ :: _, [] => 1
  | a :: l, b :: m => if a < b then -1 else if b < a then 1 else cmpL l m

/-- The order of two texts. -/
def lessL : List Int → List Int → Bool
  | _, [] => false
  | [], _ :: _ => true
  | a :: l, b :: m => if a < b then true else if b < a then false else lessL l m

theorem escBody_append (l m : List Int) : escBody (l ++ m) = escBody l ++ escBody m := by
  induction l with
  | nil => rfl
  | cons b l ih => simp [escBody, ih]

theorem escBody_len (l : List Int) : (escBody l).length ≤ 2 * l.length := by
  induction l with
  | nil => simp [escBody]
  | cons b l ih =>
    simp only [escBody, List.length_append, List.length_cons]
    split <;> simp <;> omega

theorem lessL_irrefl (l : List Int) : lessL l l = false := by
  induction l with
  | nil => rfl
  | cons a l ih => simp [lessL, ih]

theorem lessL_total (l m : List Int) (h : l ≠ m) : lessL m l = !(lessL l m) := by
  induction l generalizing m with
  | nil =>
    cases m with
    | nil => exact absurd rfl h
    | cons b m => rfl
  | cons a l ih =>
    cases m with
    | nil => rfl
    | cons b m =>
      simp only [lessL]
      by_cases h1 : a < b
      · have h2 : ¬ b < a := by omega
        simp [h1, h2]
      · by_cases h2 : b < a
        · simp [h1, h2]
        · have e : a = b := by omega
          subst e
          simp only [if_neg h1]
          exact ih m (fun e => h (by rw [e]))

theorem cmp_same (p l m : List Int) : cmpL (p ++ l) (p ++ m) = cmpL l m := by
  induction p with
  | nil => rfl
  | cons a p ih => simp [cmpL, ih]

/-- THE HEART: the escaped texts compare as the texts; where the texts are the same the rest decides. -/
theorem cmp_esc (l m t u : List Int) (hl : ∀ b ∈ l, 0 ≤ b) (hm : ∀ b ∈ m, 0 ≤ b) :
    cmpL (esc l ++ t) (esc m ++ u) = if l = m then cmpL t u else if lessL l m = true then -1 else 1 := by
  induction l generalizing m with
  | nil =>
    cases m with
    | nil => simp [esc, escBody, cmpL]
    | cons b m =>
      have hb := hm b (by simp)
      by_cases e : b = 0
      · simp [esc, escBody, cmpL, lessL, e]
      · have h1 : 0 < b := by omega
        simp [esc, escBody, cmpL, lessL, e, h1]
  | cons a l ih =>
    have ha := hl a (by simp)
    cases m with
    | nil =>
      by_cases e : a = 0
      · simp [esc, escBody, cmpL, lessL, e]
      · have h1 : 0 < a := by omega
        have h2 : ¬ a < 0 := by omega
        simp [esc, escBody, cmpL, lessL, e, h1, h2]
    | cons b m =>
      have hb := hm b (by simp)
      have ih' := ih m (fun x hx => hl x (by simp [hx])) (fun x hx => hm x (by simp [hx]))
      have hs : ∀ (x : Int) (k r : List Int), esc (x :: k) ++ r = (if x = 0 then [0, 255] else [x]) ++ (esc k ++ r) := fun x k r => by simp [esc, escBody]
      rw [hs, hs]
      by_cases e : a = b
      · subst e
        rw [cmp_same, ih']
        simp [lessL]
      · have hne : ¬ (a :: l = b :: m) := fun h => e (by injection h)
        rw [if_neg hne]
        by_cases h1 : a < b
        · have hb0 : b ≠ 0 := by omega
          by_cases ha0 : a = 0
          · have : (0 : Int) < b := by omega
            simp [ha0, hb0, cmpL, lessL, this]
          · simp [ha0, hb0, cmpL, lessL, h1]
        · have h2 : b < a := by omega
          have ha0 : a ≠ 0 := by omega
          by_cases hb0 : b = 0
          · have h3 : (0 : Int) < a := by omega
            have h4 : ¬ a < 0 := by omega
            simp [ha0, hb0, cmpL, lessL, h3, h4]
          · simp [ha0, hb0, cmpL, lessL, h1, h2]

/-- The pair's order. -/
def beforeL (a c b d : List Int) : Bool := if a = b then lessL c d else lessL a b

def key (a c : List Int) : List Int := esc a ++ esc c

theorem cmp_key (a c b d : List Int) (ha : ∀ x ∈ a, 0 ≤ x) (hc : ∀ x ∈ c, 0 ≤ x) (hb : ∀ x ∈ b, 0 ≤ x) (hd : ∀ x ∈ d, 0 ≤ x) :
    cmpL (key a c) (key b d) = if a = b ∧ c = d then 0 else if beforeL a c b d = true then -1 else 1 := by
  unfold key beforeL
  rw [cmp_esc a b _ _ ha hb]
  by_cases e : a = b
  · subst e
    have h := cmp_esc c d [] [] hc hd
    simp only [List.append_nil] at h
    rw [if_pos rfl, h]
    by_cases e2 : c = d
    · subst e2; simp [cmpL]
    · simp [e2]
  · simp [e]

theorem before_same (a c : List Int) : beforeL a c a c = false := by simp [beforeL, lessL_irrefl]
theorem before_turn (a c b d : List Int) (h : ¬ (a = b ∧ c = d)) : beforeL b d a c = !(beforeL a c b d) := by
  unfold beforeL
  by_cases e : a = b
  · subst e
    have : c ≠ d := fun e2 => h ⟨rfl, e2⟩
    simp [lessL_total c d this]
  · have e' : ¬ b = a := fun h => e h.symm
    simp [e, e', lessL_total a b e]
end Go.Proofs.Qxb6617735a
