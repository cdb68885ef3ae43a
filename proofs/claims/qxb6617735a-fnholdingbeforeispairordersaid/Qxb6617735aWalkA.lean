import Derived.Test.Qxb6617735aRows
import Derived.Test.Qxb6617735aPlain
import Derived.WalkKit
import Derived.ProofKit
import Derived.WalkLawsBesides
import Derived.Outline
import Derived.Deep.QuietTactic
import Derived.BigQuiet
import Derived.Deep.Light
import Derived.Deep.LoopGhost
namespace Go.Proofs.Qxb6617735a
open Go.RowKit

/-- The call answers a bool; nothing has turned. -/
def RetBool (w : World) (e : Ending) (w' : World) : Prop := ∃ r : Bool, e = .returned (.bool r) ∧ w' = w

set_option maxHeartbeats 400000 in
theorem bytes_any (a b c d : ByteArray) (w : World) (ha : a.size ≤ maxLen) (hb : b.size ≤ maxLen) (hc : c.size ≤ maxLen) (hd : d.size ≤ maxLen) :
    Calls Try.prog 4 #[.string a, .string b, .string c, .string d] w (RetBool w) := by
  unfold maxLen at ha hb hc hd
  go_enter Try.func4, Try.ntmps4
  go_wp2
  all_goals (go_ret; exact ⟨_, rfl, rfl⟩)

/-- The text as numbers. -/
def nums (s : ByteArray) : List Int := s.toList.map (fun c => (c.toNat : Int))

theorem nums_lo (s : ByteArray) : ∀ x ∈ nums s, 0 ≤ x := by
  intro x hx
  simp only [nums, List.mem_map] at hx
  obtain ⟨c, _, rfl⟩ := hx
  omega

theorem map_inj (l m : List UInt8) : (l.map (fun c => (c.toNat : Int)) = m.map (fun c => (c.toNat : Int))) ↔ l = m := by
  constructor
  · intro h
    induction l generalizing m with
    | nil => cases m with
      | nil => rfl
      | cons b m => cases h
    | cons a l ih => cases m with
      | nil => cases h
      | cons b m =>
        simp only [List.map_cons, List.cons.injEq] at h
        rw [ih m h.2, UInt8.toNat_inj.1 (by omega : a.toNat = b.toNat)]
  · intro h; rw [h]

theorem nums_eq (a b : ByteArray) : (a.toList == b.toList) = decide (nums a = nums b) := by
  rw [Bool.eq_iff_iff, beq_iff_eq, decide_eq_true_iff]
  exact (map_inj _ _).symm

theorem less_eq (l m : List UInt8) : Op.bytesLess l m = lessL (l.map (fun c => (c.toNat : Int))) (m.map (fun c => (c.toNat : Int))) := by
  induction l generalizing m with
  | nil => cases m <;> rfl
  | cons a l ih =>
    cases m with
    | nil => rfl
    | cons b m =>
      simp only [Op.bytesLess, List.map_cons, lessL, ih]
      by_cases h1 : a < b
      · have : (a.toNat : Int) < (b.toNat : Int) := by have := UInt8.lt_iff_toNat_lt.1 h1; omega
        simp [h1, this]
      · have h1' : ¬ (a.toNat : Int) < (b.toNat : Int) := fun h => h1 (UInt8.lt_iff_toNat_lt.2 (by omega))
        by_cases h2 : (b.toNat : Int) < (a.toNat : Int)
        · have : a ≠ b := fun e => by subst e; omega
          simp [h1, h1', h2, this]
        · have : a = b := UInt8.toNat_inj.1 (by omega)
          subst this
          simp

theorem nums_less (a b : ByteArray) : Op.bytesLess a.toList b.toList = lessL (nums a) (nums b) := less_eq _ _

set_option maxHeartbeats 400000 in
theorem before_any (a c b d : ByteArray) (w : World) :
    Calls Try.prog 8 #[.agg #[.string a, .string c], .agg #[.string b, .string d]] w fun e w' => e = .returned (.bool (beforeL (nums a) (nums c) (nums b) (nums d))) ∧ Below w.heap.size w w' := by
  cases h : (a.toList == b.toList)
  · have HE : Hid (¬ nums a = nums b) := by show ¬ nums a = nums b; rw [nums_eq] at h; simpa using h
    have HV : Hid (beforeL (nums a) (nums c) (nums b) (nums d) = Op.bytesLess a.toList b.toList) := by
      show _ = _
      rw [nums_less]; unfold beforeL; rw [if_neg HE.out]
    have h' : (a.toList != b.toList) = true := by simp [bne, h]
    go_enter Try.func8, Try.ntmps8
    go_wp2
    go_ret
    exact ⟨by rw [HV.out]; rfl, ((Below.refl _ _).alloc (Nat.le_refl _) _).alloc (by simp) _⟩
  · have HE : Hid (nums a = nums b) := by show nums a = nums b; rw [nums_eq] at h; simpa using h
    have HV : Hid (beforeL (nums a) (nums c) (nums b) (nums d) = Op.bytesLess c.toList d.toList) := by
      show _ = _
      rw [nums_less]; unfold beforeL; rw [if_pos HE.out]
    have h' : (a.toList != b.toList) = false := by simp [bne, h]
    go_enter Try.func8, Try.ntmps8
    go_wp2
    go_ret
    exact ⟨by rw [HV.out]; rfl, ((Below.refl _ _).alloc (Nat.le_refl _) _).alloc (by simp) _⟩

set_option maxHeartbeats 400000 in
theorem zzbefore_any (a c b d : ByteArray) (w : World) :
    Calls Try.prog 5 #[.string a, .string c, .string b, .string d] w fun e w' => e = .returned (.bool (beforeL (nums a) (nums c) (nums b) (nums d))) ∧ Below w.heap.size w w' := by
  go_enter Try.func5, Try.ntmps5
  go_wp2_with fail
  refine (before_any a c b d _).mono ?_
  rintro e w1 ⟨rfl, hb1⟩
  have HB1 : Hid (Below w.heap.size w w1) := hb1
  clear hb1
  go_wp2_with fail
  go_ret
  exact ⟨rfl, HB1.out⟩
end Go.Proofs.Qxb6617735a
