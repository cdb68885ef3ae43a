import Derived.Test.Qxb6618296aWalkA
namespace Go.Proofs.Qxb6618296a
open Go.RowKit Go.Deep

/-- What ZZSpace hands back. -/
def RetZZ (Z : Nat → Int) (ta : Option Addr) (n c : Nat) (a d : Int) (u : Bool) (w : World) (e : Ending) (w' : World) : Prop :=
  ∃ r, e = .returned (.tuple #[.slice ta n c, .int .i64 r, .int .i64 d, .bool u]) ∧ IsEnd Z n a r ∧ Below w.heap.size w w'

set_option maxHeartbeats 1000000 in
theorem zzspace_any (ta : Option Addr) (n c : Nat) (Z : Nat → Int) (a d : Int) (u : Bool) (w : World) (hn : (n : Int) ≤ 1048576) (ha : 0 ≤ a) (ht : TextAt w w.heap.size ta n Z) :
    Calls Try.prog 6 #[.slice ta n c, .int .i64 a, .int .i64 d, .bool u] w (RetZZ Z ta n c a d u w) := by
  have HT : Hid (TextAt w w.heap.size ta n Z) := ht
  clear ht
  go_enter Try.func6, Try.ntmps6
  go_wp2_with fail
  refine (space_any w.heap.size ta n c Z a d u _ hn ha (HT.out.later ((Below.refl _ _).alloc (Nat.le_refl _) _)) ⟨by simp [go_sem], by simp [go_sem], by simp [go_sem], by simp [go_sem], by simp [go_sem]⟩).mono ?_
  rintro e w1 ⟨rfl, r, hend, hsc, hb1⟩
  have HX : Hid (IsEnd Z n a r ∧ Below w.heap.size w w1) := ⟨hend, ((Below.refl _ _).alloc (Nat.le_refl _) _).trans hb1⟩
  have s0 := hsc.c0
  have s1 := hsc.c1
  have s2 := hsc.c2
  have s3 := hsc.c3
  clear hend hsc hb1
  go_wp2_with fail
  go_quiet (fail)
  go_wp2_with fail
  refine bodyPost_ret (v := .tuple #[.slice ta n c, .int .i64 r, .int .i64 d, .bool u]) (by simp [results, Try.results6, go_sem]) rfl ⟨r, rfl, HX.out.1, below_drewN HX.out.2 _⟩

set_option maxHeartbeats 400000 in
theorem same_any (ta : Option Addr) (n c c' : Nat) (Z : Nat → Int) (Bd : Nat) (w : World) (hn : (n : Int) ≤ 1048576) (ht : TextAt w Bd ta n Z) :
    Calls Try.prog 7 #[.slice ta n c, .slice ta n c'] w fun e w' => e = .returned (.bool true) ∧ Below w.heap.size w w' := by
  have HT : Hid (TextAt w Bd ta n Z) := ht
  clear ht
  go_enter Try.func7, Try.ntmps7
  go_wp2
  go_loopg [5] (n + 1) (fun g iv wx => ∃ k q : Nat, n + 1 ≤ g + k ∧ k ≤ n ∧ iv = .int .i64 (k : Int) ∧ wx = w.drewN q)
  case atStart => exact ⟨0, 0, by omega, Nat.zero_le _, rfl, rfl⟩
  case round =>
    obtain ⟨k, q, Hg, hk, rfl, rfl⟩ := hrel
    have HX : Hid (n + 1 ≤ gk + k) := Hg
    clear Hg
    by_cases hlt : k < n
    · obtain ⟨b, o, rfl, hbl, hcell⟩ := HT.out k hlt
      have hlt1 : (k : Int) < (n : Int) := by omega
      have hbne : (Z k != Z k) = false := by simp
      go_wp2
      go_quiet (fail)
      go_wp2
      go_roundg (n - k)
      case measure => go_light; have := HX.out; omega
      case rel =>
        go_light
        exact ⟨k + 1, _, by omega, by omega, by go_num, rfl⟩
    · go_wp2
      go_ret
      exact ⟨rfl, below_drewN (Below.refl _ _) _⟩

set_option maxHeartbeats 1000000 in
theorem isend_any (ta : Option Addr) (n c : Nat) (Z : Nat → Int) (Bd : Nat) (a r : Int) (w : World) (hn : (n : Int) ≤ 1048576) (ha : 0 ≤ a) (ht : TextAt w Bd ta n Z) (he : IsEnd Z n a r) :
    Calls Try.prog 8 #[.slice ta n c, .int .i64 a, .int .i64 r] w fun e w' => e = .returned (.bool true) ∧ w' = w := by
  have HT : Hid (TextAt w Bd ta n Z) := ht
  clear ht
  by_cases hge : (n : Int) ≤ a
  · obtain rfl : r = a := he.1 hge
    clear he
    go_enter Try.func8, Try.ntmps8
    go_wp2_with fail
    go_ret
    exact ⟨rfl, rfl⟩
  · obtain ⟨h1, h2, h3, h4⟩ := he.2 (by omega)
    have HE : Hid ((∀ i : Nat, a ≤ (i : Int) → (i : Int) < r → wsB (Z i) = true) ∧ (r < (n : Int) → wsB (Z r.toNat) = false)) := ⟨h3, h4⟩
    clear h3 h4 he
    obtain ⟨k0, rfl⟩ := Int.eq_ofNat_of_zero_le ha
    obtain ⟨m, rfl⟩ := Int.eq_ofNat_of_zero_le (by omega : 0 ≤ r)
    go_enter Try.func8, Try.ntmps8
    go_wp2_with fail
    go_loopg [7] (m + 1) (fun g iv wx => ∃ k : Nat, m + 1 ≤ g + k ∧ k0 ≤ k ∧ k ≤ m ∧ iv = .int .i64 (k : Int) ∧ w = wx)
    case atStart => exact ⟨k0, by omega, Nat.le_refl _, by omega, rfl, rfl⟩
    case round =>
      obtain ⟨k, Hg, hk0, hk, rfl, rfl⟩ := hrel
      have HX : Hid (m + 1 ≤ gk + k) := Hg
      clear Hg
      by_cases hlt : k < m
      · obtain ⟨b, o, rfl, hbl, hcell⟩ := HT.out k (by omega)
        have HW : Hid (wsB (Z k) = true) := HE.out.1 k (by omega) (by omega)
        go_wp2_with fail
        refine (ws_any (Z k) _).mono ?_
        rintro e w1 ⟨he1, rfl⟩
        rw [HW.out] at he1
        subst he1
        go_wp2_with fail
        go_roundg (m - k)
        case measure => go_light; have := HX.out; omega
        case rel =>
          go_light
          exact ⟨k + 1, by omega, by omega, by omega, by go_num, rfl⟩
      · by_cases hmn : m = n
        · subst hmn
          go_wp2_with fail
          go_ret
          exact ⟨rfl, rfl⟩
        · obtain ⟨b, o, rfl, hbl, hcell⟩ := HT.out m (by omega)
          have HW : Hid (wsB (Z m) = false) := HE.out.2 (by omega)
          have hb1 : ((m : Int) == (n : Int)) = false := by rw [beq_eq_false_iff_ne]; omega
          have hb2 : (m : Int) < (n : Int) := by omega
          clear hmn
          go_wp2_with fail
          refine (ws_any (Z m) _).mono ?_
          rintro e w1 ⟨he1, rfl⟩
          rw [HW.out] at he1
          subst he1
          go_wp2_with fail
          go_ret
          exact ⟨rfl, rfl⟩
end Go.Proofs.Qxb6618296a
