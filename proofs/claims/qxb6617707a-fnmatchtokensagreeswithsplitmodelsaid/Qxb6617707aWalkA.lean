import Derived.Test.Qxb6617707aRows
import Derived.WalkKit
import Derived.ProofKit
import Derived.WalkLawsBesides
import Derived.Outline
namespace Go.Proofs.Qxb6617707a
open Go.RowKit

/-- The call answers a bool; nothing has turned. -/
def RetBool (w : World) (e : Ending) (w' : World) : Prop := ∃ r : Bool, e = .returned (.bool r) ∧ w' = w
/-- The call answers a bool; where it is true, all the kinds are at most 5. -/
def RetKnown (K : Nat → Int) (n : Nat) (w : World) (e : Ending) (w' : World) : Prop := ∃ r : Bool, e = .returned (.bool r) ∧ (r = true → ∀ i, i < n → K i ≤ 5) ∧ w' = w

set_option maxHeartbeats 400000 in
theorem known_any (ka : Option Addr) (n kc : Nat) (K : Nat → Int) (w : World) (hn : n ≤ 9223372036854775807)
    (hk : ∀ i, i < n → ∃ b o, ka = some ⟨b, o, none⟩ ∧ w.cell? ⟨b, o + i, none⟩ = some (.int .u8 (K i))) :
    Calls Try.prog 6 #[.slice ka n kc] w (RetKnown K n w) := by
  have HK : Hid (∀ i, i < n → ∃ b o, ka = some ⟨b, o, none⟩ ∧ w.cell? ⟨b, o + i, none⟩ = some (.int .u8 (K i))) := hk
  clear hk
  go_enter Try.func6, Try.ntmps6
  go_wp2
  go_loop [3] (fun i => ∃ k : Nat, k ≤ n ∧ i = .int .i64 k ∧ ∀ i, i < k → K i ≤ 5) (fun i => n - (intOf i).toNat)
  case atStart => exact ⟨0, Nat.zero_le _, rfl, by omega⟩
  case round =>
    obtain ⟨k, hk, rfl, hle⟩ := hrel
    have HL : Hid (∀ i, i < k → K i ≤ 5) := hle
    clear hle
    by_cases hlt : k < n
    · obtain ⟨b, o, rfl, hc⟩ := HK.out k hlt
      go_wp2
      · go_ret
        exact ⟨false, rfl, by simp, rfl⟩
      · go_round
        case rel => exact ⟨k + 1, by omega, by go_num, fun i hi => by
          rcases Nat.lt_succ_iff_lt_or_eq.1 hi with h | h
          · exact HL.out i h
          · subst h; omega⟩
        case measure => simp [intOf]; omega
    · go_wp2
      go_ret
      exact ⟨true, rfl, fun _ i hi => HL.out i (by omega), rfl⟩

set_option maxRecDepth 100000 in
set_option maxHeartbeats 800000 in
theorem bytes_any (ka ba sa : Option Addr) (kn kc bn bc sn sc : Nat) (s : ByteArray) (w : World) (hs : s.size ≤ maxLen) :
    Calls Try.prog 5 #[.slice ka kn kc, .slice ba bn bc, .slice sa sn sc, .string s] w (RetBool w) := by
  unfold maxLen at hs
  go_enter Try.func5, Try.ntmps5
  go_wp2
  all_goals first
    | (go_ret; exact ⟨_, rfl, rfl⟩)
    | skip
  go_loop [9, 10] (fun z i => ∃ k : Nat, ∃ q : Int, k ≤ sn ∧ 0 ≤ q ∧ q ≤ 1048576 ∧ i = .int .i64 k ∧ z = .int .i64 q) (fun _ i => sn - (intOf i).toNat)
  case atStart => exact ⟨0, _, by omega, by omega, by omega, rfl, rfl⟩
  case round =>
    obtain ⟨k, q, hk, hq0, hq, rfl, rfl⟩ := hrel
    by_cases hlt : k < sn
    · go_wp2
      · go_ret
        exact ⟨_, rfl, rfl⟩
      · go_round
        case rel => exact ⟨k + 1, q + 256, by omega, by omega, by omega, by go_num, rfl⟩
        case measure => simp [intOf]; omega
    · go_wp2
      all_goals (go_ret; exact ⟨_, rfl, rfl⟩)
end Go.Proofs.Qxb6617707a
