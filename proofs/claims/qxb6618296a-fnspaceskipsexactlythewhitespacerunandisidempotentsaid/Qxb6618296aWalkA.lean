import Derived.Test.Qxb6618296aRows
import Derived.Test.Qxb6618296aPlain
import Derived.WalkKit
import Derived.ProofKit
import Derived.WalkLawsBesides
import Derived.Outline
import Derived.OpenShut
import Derived.Deep.Light
import Derived.Deep.LoopGhost
import Derived.Deep.OwnRows
import Derived.Deep.QuietTactic
import Derived.BigQuiet
import Derived.BigRegion
namespace Go.Proofs.Qxb6618296a
open Go.RowKit Go.Deep

/-- The call answers a bool; nothing has turned. -/
def RetBool (w : World) (e : Ending) (w' : World) : Prop := ∃ r : Bool, e = .returned (.bool r) ∧ w' = w

set_option maxHeartbeats 400000 in
theorem bytes5_any (a : Option Addr) (n c : Nat) (x y : Int) (u : Bool) (w : World) :
    Calls Try.prog 5 #[.slice a n c, .int .i64 x, .int .i64 y, .bool u] w (RetBool w) := by
  go_enter Try.func5, Try.ntmps5
  go_wp2
  all_goals (go_ret; exact ⟨_, rfl, rfl⟩)

set_option maxHeartbeats 400000 in
theorem bytes9_any (a : Option Addr) (n c : Nat) (x y z : Int) (u : Bool) (w : World) :
    Calls Try.prog 9 #[.slice a n c, .int .i64 x, .int .i64 y, .bool u, .int .i64 z] w (RetBool w) := by
  go_enter Try.func9, Try.ntmps9
  go_wp2
  all_goals (go_ret; exact ⟨_, rfl, rfl⟩)

set_option maxHeartbeats 400000 in
theorem ws_any (c : Int) (w : World) : Calls Try.prog 11 #[.int .u8 c] w fun e w' => e = .returned (.bool (wsB c)) ∧ w' = w := by
  cases h1 : (c == 32) <;> cases h2 : (c == 9) <;> cases h3 : (c == 10) <;> cases h4 : (c == 13)
  all_goals
    go_enter Try.func11, Try.ntmps11
    go_wp2
    go_ret
    exact ⟨by simp [wsB, h1, h2, h3, h4], rfl⟩

theorem cell_same {w : World} {a : Addr} {u v : Value} (h : w.cell? a = some u) : (w.setCell a v).cell? a = some v := by
  apply World.cell?_setCell_same; exact h
theorem cell_other {w : World} {a b : Addr} {v : Value} (h : a ≠ b) : (w.setCell a v).cell? b = w.cell? b := by
  apply World.cell?_setCell_other; exact h

/-- The text's bytes behind a slice. -/
def TextAt (w : World) (Bd : Nat) (ta : Option Addr) (n : Nat) (Z : Nat → Int) : Prop :=
  ∀ i, i < n → ∃ b o, ta = some ⟨b, o, none⟩ ∧ b < Bd ∧ w.cell? ⟨b, o + i, none⟩ = some (.int .u8 (Z i))

theorem TextAt.later {w w' : World} {Bd : Nat} {ta : Option Addr} {n : Nat} {Z : Nat → Int} (h : TextAt w Bd ta n Z) (hb : Below Bd w w') : TextAt w' Bd ta n Z := fun i hi => by
  obtain ⟨b, o, e, hlt, hc⟩ := h i hi
  exact ⟨b, o, e, hlt, (hb.cell (p := ⟨b, o + i, none⟩) hlt).trans hc⟩
theorem TextAt.mono {w : World} {Bd Bd' : Nat} {ta : Option Addr} {n : Nat} {Z : Nat → Int} (h : TextAt w Bd ta n Z) (hb : Bd ≤ Bd') : TextAt w Bd' ta n Z := fun i hi => by
  obtain ⟨b, o, e, hlt, hc⟩ := h i hi
  exact ⟨b, o, e, Nat.lt_of_lt_of_le hlt hb, hc⟩

/-- The scanner in block pb, as it stands. -/
structure Scan (w : World) (pb : Nat) (ta : Option Addr) (n c : Nat) (q d : Int) (u : Bool) : Prop where
  c0 : w.cell? ⟨pb, 0, none⟩ = some (.slice ta n c)
  c1 : w.cell? ⟨pb, 1, none⟩ = some (.int .i64 q)
  c2 : w.cell? ⟨pb, 2, none⟩ = some (.int .i64 d)
  c3 : w.cell? ⟨pb, 3, none⟩ = some (.bool u)
  f1 : w.frozen? ⟨pb, 1, none⟩ = false

theorem Scan.drewN {w : World} {pb : Nat} {ta : Option Addr} {n c : Nat} {q d : Int} {u : Bool} (h : Scan w pb ta n c q d u) (k : Nat) : Scan (w.drewN k) pb ta n c q d u := ⟨h.c0, h.c1, h.c2, h.c3, h.f1⟩

theorem Scan.at {w : World} {pb : Nat} {ta : Option Addr} {n c : Nat} {q d : Int} {u : Bool} (h : Scan w pb ta n c q d u) (k : Nat) (q' : Int) : Scan ((w.setCell ⟨pb, 1, none⟩ (.int .i64 q')).drewN k) pb ta n c q' d u where
  c0 := by rw [World.cell?_drewN, cell_other (by simp)]; exact h.c0
  c1 := by rw [World.cell?_drewN, cell_same h.c1]
  c2 := by rw [World.cell?_drewN, cell_other (by simp)]; exact h.c2
  c3 := by rw [World.cell?_drewN, cell_other (by simp)]; exact h.c3
  f1 := by rw [World.frozen?_drewN, World.frozen?_setCell]; exact h.f1

theorem ws_next {Z : Nat → Int} {a : Int} {k : Nat} (h : ∀ i : Nat, a ≤ (i : Int) → (i : Int) < (k : Int) → wsB (Z i) = true) (hk : wsB (Z k) = true) : ∀ i : Nat, a ≤ (i : Int) → (i : Int) < (k : Int) + 1 → wsB (Z i) = true := fun i h1 h2 => by
  by_cases e : i = k
  · subst e; exact hk
  · exact h i h1 (by omega)

/-- What 'space' leaves. -/
def RetSpace (Z : Nat → Int) (pb : Nat) (ta : Option Addr) (n c : Nat) (a d : Int) (u : Bool) (w : World) (e : Ending) (w' : World) : Prop :=
  e = .returned (.tuple #[]) ∧ ∃ r, IsEnd Z n a r ∧ Scan w' pb ta n c r d u ∧ Below pb w w'

set_option maxHeartbeats 1000000 in
theorem space_any (pb : Nat) (ta : Option Addr) (n c : Nat) (Z : Nat → Int) (a d : Int) (u : Bool) (w : World) (hn : (n : Int) ≤ 1048576) (ha : 0 ≤ a) (ht : TextAt w pb ta n Z) (hsc : Scan w pb ta n c a d u) :
    Calls Try.prog 10 #[.pointer (some ⟨pb, 0, none⟩)] w (RetSpace Z pb ta n c a d u w) := by
  have HT : Hid (TextAt w pb ta n Z) := ht
  have HS : Hid (Scan w pb ta n c a d u) := hsc
  clear ht hsc
  go_enter Try.func10, Try.ntmps10
  go_wp2
  go_loopg [] (n + 2) (fun g wx => ∃ q : Int, (n : Int) + 1 - q < g ∧ a ≤ q ∧ (q = a ∨ q ≤ (n : Int)) ∧ (∀ i : Nat, a ≤ (i : Int) → (i : Int) < q → wsB (Z i) = true) ∧ Scan wx pb ta n c q d u ∧ Below pb w wx)
  case atStart =>
    go_light
    exact ⟨a, by omega, Int.le_refl _, Or.inl rfl, by omega, HS.out, Below.refl _ _⟩
  case round =>
    obtain ⟨q, Hg, hq0, hq1, hws, hsc, hbel⟩ := hrel
    have HX : Hid ((n : Int) + 1 - q < gk ∧ (q = a ∨ q ≤ (n : Int)) ∧ (∀ i : Nat, a ≤ (i : Int) → (i : Int) < q → wsB (Z i) = true) ∧ Scan wr pb ta n c q d u ∧ Below pb w wr) := ⟨Hg, hq1, hws, hsc, hbel⟩
    have s0 := hsc.c0
    have s1 := hsc.c1
    have s2 := hsc.f1
    clear Hg hq1 hws hsc hbel
    by_cases hlt : q < (n : Int)
    · obtain ⟨k, rfl⟩ := Int.eq_ofNat_of_zero_le (by omega : 0 ≤ q)
      obtain ⟨b, o, rfl, hbl, hcell⟩ := (HT.out.later HX.out.2.2.2.2) k (by omega)
      obtain ⟨z, hz⟩ : ∃ z, Z k = z := ⟨_, rfl⟩
      have HZ : Hid (Z k = z) := hz
      rw [hz] at hcell
      clear hz
      cases e1 : (z == 32)
      · cases e2 : (z == 9)
        · cases e3 : (z == 10)
          · cases e4 : (z == 13)
            · have HWS : Hid (wsB (Z k) = false) := by show wsB (Z k) = false; rw [HZ.out]; simp [wsB, e1, e2, e3, e4]
              go_wp2
              go_quiet (fail)
              go_wp2
              go_quiet (fail)
              go_wp2
              go_end0
              refine ⟨rfl, (k : Int), ⟨fun h => by omega, fun _ => ⟨by omega, by omega, HX.out.2.2.1, fun _ => by rw [Int.toNat_natCast]; exact HWS.out⟩⟩, HX.out.2.2.2.1.drewN _, below_drewN HX.out.2.2.2.2 _⟩
            · have HWS : Hid (wsB (Z k) = true) := by show wsB (Z k) = true; rw [HZ.out]; simp [wsB, e4]
              go_wp2
              go_quiet (fail)
              go_wp2
              go_quiet (fail)
              go_wp2
              go_roundg ((n : Int) + 1 - k).toNat
              case measure => go_light; have := HX.out.1; omega
              case rel =>
                go_light
                exact ⟨(k : Int) + 1, by omega, by omega, by omega, ws_next HX.out.2.2.1 HWS.out, HX.out.2.2.2.1.at _ _, (below_drewN HX.out.2.2.2.2 _).setCell (Nat.le_refl _) _⟩
          · have HWS : Hid (wsB (Z k) = true) := by show wsB (Z k) = true; rw [HZ.out]; simp [wsB, e3]
            go_wp2
            go_quiet (fail)
            go_wp2
            go_quiet (fail)
            go_wp2
            go_roundg ((n : Int) + 1 - k).toNat
            case measure => go_light; have := HX.out.1; omega
            case rel =>
              go_light
              exact ⟨(k : Int) + 1, by omega, by omega, by omega, ws_next HX.out.2.2.1 HWS.out, HX.out.2.2.2.1.at _ _, (below_drewN HX.out.2.2.2.2 _).setCell (Nat.le_refl _) _⟩
        · have HWS : Hid (wsB (Z k) = true) := by show wsB (Z k) = true; rw [HZ.out]; simp [wsB, e2]
          go_wp2
          go_quiet (fail)
          go_wp2
          go_quiet (fail)
          go_wp2
          go_roundg ((n : Int) + 1 - k).toNat
          case measure => go_light; have := HX.out.1; omega
          case rel =>
            go_light
            exact ⟨(k : Int) + 1, by omega, by omega, by omega, ws_next HX.out.2.2.1 HWS.out, HX.out.2.2.2.1.at _ _, (below_drewN HX.out.2.2.2.2 _).setCell (Nat.le_refl _) _⟩
      · have HWS : Hid (wsB (Z k) = true) := by show wsB (Z k) = true; rw [HZ.out]; simp [wsB, e1]
        go_wp2
        go_quiet (fail)
        go_wp2
        go_quiet (fail)
        go_wp2
        go_roundg ((n : Int) + 1 - k).toNat
        case measure => go_light; have := HX.out.1; omega
        case rel =>
          go_light
          exact ⟨(k : Int) + 1, by omega, by omega, by omega, ws_next HX.out.2.2.1 HWS.out, HX.out.2.2.2.1.at _ _, (below_drewN HX.out.2.2.2.2 _).setCell (Nat.le_refl _) _⟩
    · have hlt1 : decide (q < (n : Int)) = false := by simp; omega
      go_wp2
      go_quiet (fail)
      go_wp2
      go_end0
      refine ⟨rfl, q, ⟨fun h => ?_, fun h => ⟨hq0, ?_, HX.out.2.2.1, fun h2 => absurd h2 (by omega)⟩⟩, HX.out.2.2.2.1.drewN _, below_drewN HX.out.2.2.2.2 _⟩
      · have := HX.out.2.1; omega
      · have := HX.out.2.1; omega
end Go.Proofs.Qxb6618296a
