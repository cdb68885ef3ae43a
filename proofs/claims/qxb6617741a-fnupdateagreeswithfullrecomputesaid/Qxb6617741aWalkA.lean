import Derived.Test.Qxb6617741aRows
import Derived.WalkKit
import Derived.ProofKit
import Derived.WalkLawsBesides
import Derived.Outline
import Derived.OpenShut
import Derived.Deep.Light
import Derived.Deep.LoopGhost
import Derived.Deep.OwnRows
import Derived.Laws.BitsAllLaws
namespace Go.Proofs.Qxb6617741a
open Go.RowKit

/-- The ones' complement sum's last form: 0 of 0, else in 1 .. 65535. -/
def red (t : Int) : Int := if t = 0 then 0 else (t - 1) % 65535 + 1

theorem red_small (s : Int) (h0 : 0 ≤ s) (h : s ≤ 65535) : red s = s := by
  unfold red; split <;> omega
theorem red_fold (s : Int) (h0 : 65535 < s) (_h : s ≤ 200000) : red (s % 65536 + s / 65536) = red s := by
  unfold red; rw [if_neg (by omega), if_neg (by omega)]; omega
theorem red_range (t : Int) (_h : 0 ≤ t) : 0 ≤ red t ∧ red t ≤ 65535 := by
  unfold red; split <;> omega

theorem xor_all (a : Nat) (h : a < 65536) : 65535 ^^^ a = 65535 - a := by
  have e := BitVec.toNat_not (x := BitVec.ofNat 16 a)
  rw [BitVec.not_def, BitVec.toNat_xor, BitVec.toNat_allOnes, BitVec.toNat_ofNat, Nat.mod_eq_of_lt h] at e
  exact e

theorem not16 (a : Int) (h0 : 0 ≤ a) (h : a ≤ 65535) : bits BinOp.xor IntKind.u16 IntKind.u16.max a = 65535 - a := by
  have hm : IntKind.u16.max = 65535 := by decide
  rw [hm, u16_xor 65535 a (by omega) (by omega) h0 (by omega)]
  have e : (65535 : Int).toNat = 65535 := rfl
  rw [e, xor_all _ (by omega)]
  omega

theorem low16 (s : Int) (h0 : 0 ≤ s) (h : s ≤ 200000) : bits BinOp.and IntKind.u32 s 65535 = s % 65536 := by
  rw [u32_and s 65535 h0 (by omega) (by omega) (by omega)]
  have e : (65535 : Int).toNat = 2 ^ 16 - 1 := rfl
  rw [e, Nat.and_two_pow_sub_one_eq_mod]
  omega

set_option maxHeartbeats 400000 in
theorem update_any (a b c : Int) (w : World) (ha : 0 ≤ a) (ha' : a ≤ 65535) (hb : 0 ≤ b) (hb' : b ≤ 65535) (hc : 0 ≤ c) (hc' : c ≤ 65535) :
    Calls Try.prog 5 #[.int .u16 a, .int .u16 b, .int .u16 c] w fun e w' => e = .returned (.int .u16 (65535 - red ((65535 - a) + (65535 - b) + c))) ∧ w' = w := by
  have x1 := not16 a ha ha'
  have x2 := not16 b hb hb'
  obtain ⟨R, hR⟩ : ∃ R, red ((65535 - a) + (65535 - b) + c) = R := ⟨_, rfl⟩
  rw [hR]
  have HR : Hid (red ((65535 - a) + (65535 - b) + c) = R) := hR
  clear hR
  go_enter Try.func5, Try.ntmps5
  go_wp2
  go_loopg [7] 200000 (fun g sv wx => ∃ s : Int, s ≤ g ∧ 0 ≤ s ∧ s ≤ 200000 ∧ sv = .int .u32 s ∧ red s = R ∧ w = wx)
  case atStart =>
    go_light
    exact ⟨_, by omega, by omega, by omega, rfl, by rw [Int.emod_eq_of_lt (by omega) (by omega)]; exact HR.out, rfl⟩
  case round =>
    obtain ⟨s, Hg, h0, h2, rfl, hred, rfl⟩ := hrel
    have HX : Hid (s ≤ gk ∧ red s = R) := ⟨Hg, hred⟩
    clear Hg hred
    by_cases hlt : 65535 < s
    · have x3 := low16 s h0 h2
      go_wp2
      go_roundg (s % 65536 + s / 65536).toNat
      case measure => go_light; have := HX.out.1; omega
      case rel =>
        go_light
        exact ⟨_, by omega, by omega, by omega, rfl, by rw [red_fold s hlt h2]; exact HX.out.2, rfl⟩
    · have x4 := not16 s h0 (by omega)
      have HE : Hid (s = R) := by rw [← HX.out.2]; exact (red_small s h0 (by omega)).symm
      go_wp2
      go_ret
      exact ⟨by rw [← HE.out]; rfl, rfl⟩
end Go.Proofs.Qxb6617741a
