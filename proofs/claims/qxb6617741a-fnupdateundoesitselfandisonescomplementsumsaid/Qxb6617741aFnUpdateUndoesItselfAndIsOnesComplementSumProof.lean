import Derived.Test.Qxb6617741aWalkA
import Derived.WalkKit
import Derived.ProofKit
import Derived.OpenShut
import Derived.ShutString
namespace Go.Proofs.Qxb6617741a.fnUpdateUndoesItselfAndIsOnesComplementSum
open Go.ChangeShapes Go.WideShapes Go.ChangeAt Go.RowKit
open Go.ChangeMaps (open_string shut_string)
set_option linter.unusedVariables false      -- a walk need not use every 'w<i>' (that an integer argument fits its kind)

theorem own : ownKnob Try.prog.godebug = none := by kernel_rfl

/-- What the first call gives. -/
theorem first_law (a b c : Int) (ha : 0 ≤ a) (ha' : a ≤ 65535) (hb : 0 ≤ b) (hb' : b ≤ 65535) (hc : 0 ≤ c) (hc' : c ≤ 65535) :
    ∃ r, 65535 - red ((65535 - a) + (65535 - b) + c) = r ∧ 0 ≤ r ∧ r ≤ 65535 ∧ (65535 - r) % 65535 = ((65535 - a) + (65535 - b) + c) % 65535 ∧ (65535 - r = 0 ↔ (65535 - a) + (65535 - b) + c = 0) := by
  refine ⟨_, rfl, ?_⟩
  unfold red
  split <;> omega

/-- What the second gives. -/
theorem second_law (a b c r : Int) (ha : 0 ≤ a) (ha' : a ≤ 65535) (hb : 0 ≤ b) (hb' : b ≤ 65535) (hc : 0 ≤ c) (hc' : c ≤ 65535) (hr : 65535 - red ((65535 - a) + (65535 - b) + c) = r) :
    65535 - red ((65535 - r) + (65535 - c) + b) = if a = 65535 then 0 else a := by
  subst hr
  unfold red
  split <;> split <;> split <;> omega

set_option maxHeartbeats 400000 in
theorem walk (a0 : Int) (a1 : Int) (a2 : Int) (w0 : (Lit.int .u16 a0).wf = true) (w1 : (Lit.int .u16 a1).wf = true) (w2 : (Lit.int .u16 a2).wf = true) (w : World) :
    Calls Try.prog 3 #[.int .u16 a0, .int .u16 a1, .int .u16 a2] w fun e w' => e = .returned (.bool true) ∧ Grown w w' := by
  obtain ⟨l0, u0⟩ := bounds_u16 w0
  obtain ⟨l1, u1⟩ := bounds_u16 w1
  obtain ⟨l2, u2⟩ := bounds_u16 w2
  clear w0 w1 w2
  obtain ⟨r, hr, hr0, hr1, hm, hz⟩ := first_law a0 a1 a2 l0 (by omega) l1 (by omega) l2 (by omega)
  have h2 := second_law a0 a1 a2 r l0 (by omega) l1 (by omega) l2 (by omega) hr
  have HR : Hid (65535 - red ((65535 - a0) + (65535 - a1) + a2) = r) := hr
  have H2 : Hid (65535 - red ((65535 - r) + (65535 - a2) + a1) = if a0 = 65535 then 0 else a0) := h2
  have HM : Hid ((65535 - r) % 65535 = ((65535 - a0) + (65535 - a1) + a2) % 65535) := hm
  have HZ : Hid (65535 - r = 0 ↔ (65535 - a0) + (65535 - a1) + a2 = 0) := hz
  clear hr h2 hm hz
  go_enter Try.func3, Try.ntmps3
  go_wp2_with fail
  refine (update_any a0 a1 a2 _ l0 (by omega) l1 (by omega) l2 (by omega)).mono ?_
  rintro e wx ⟨he, rfl⟩
  rw [HR.out] at he
  subst he
  go_wp2_with fail
  refine (update_any r a2 a1 _ hr0 hr1 l2 (by omega) l1 (by omega)).mono ?_
  rintro e wx ⟨he, rfl⟩
  rw [H2.out] at he
  obtain ⟨v, hv⟩ : ∃ v, 65535 - r = v := ⟨_, rfl⟩
  obtain ⟨t, ht⟩ : ∃ t, 65535 - a0 + (65535 - a1) + a2 = t := ⟨_, rfl⟩
  have hvt : (v % 65535 == t % 65535) = true := by rw [← hv, ← ht]; simpa using HM.out
  have hz : v = 0 ↔ t = 0 := by rw [← hv, ← ht]; exact HZ.out
  have v0 : 0 ≤ v := by omega
  have v1 : v ≤ 65535 := by omega
  have t0 : 0 ≤ t := by omega
  have t1 : t ≤ 196605 := by omega
  clear HM HZ HR H2
  by_cases ha : a0 = 65535
  · rw [if_pos ha] at he
    subst he
    have e0 : (a0 == 65535) = true := by simp [ha]
    by_cases h0 : t = 0
    · have c1 : (t == 0) = true := by simp [h0]
      have c2 : (v == 0) = true := by simp [hz.2 h0]
      clear hz h0 ha
      go_wp2_with fail
      go_ret
      exact ⟨rfl, by repeat (first | exact Grown.refl _ | apply Grown.drew | apply Grown.alloc)⟩
    · have c1 : (t == 0) = false := by simp [h0]
      have c2 : (v == 0) = false := by simp [mt hz.1 h0]
      clear hz h0 ha
      go_wp2_with fail
      go_ret
      exact ⟨rfl, by repeat (first | exact Grown.refl _ | apply Grown.drew | apply Grown.alloc)⟩
  · rw [if_neg ha] at he
    subst he
    have e0 : (a0 == 65535) = false := by simp [ha]
    by_cases h0 : t = 0
    · have c1 : (t == 0) = true := by simp [h0]
      have c2 : (v == 0) = true := by simp [hz.2 h0]
      clear hz h0 ha
      go_wp2_with fail
      go_ret
      exact ⟨rfl, by repeat (first | exact Grown.refl _ | apply Grown.drew | apply Grown.alloc)⟩
    · have c1 : (t == 0) = false := by simp [h0]
      have c2 : (v == 0) = false := by simp [mt hz.1 h0]
      clear hz h0 ha
      go_wp2_with fail
      go_ret
      exact ⟨rfl, by repeat (first | exact Grown.refl _ | apply Grown.drew | apply Grown.alloc)⟩

/-! ### THE ROW's STEP: WRITTEN OUT: LEAVE IT -/
set_option maxRecDepth 100000 in
theorem lifted (os : Os) (started : os.Started) (H : Type) (enc : TypeId × Value → H) :
    ReturnsInHanded {} Try.checked os 3 .any (Rows.fnUpdateUndoesItselfAndIsOnesComplementSumSpec.pre6 enc Try.prog Try.f3 Rows.fnUpdateUndoesItselfAndIsOnesComplementSumRow.domain false) (Rows.fnUpdateUndoesItselfAndIsOnesComplementSumSpec.post enc Try.prog Try.f3 false true false false) := by
  refine returnsInHanded_of_change (C := Try.checked) own started (by kernel_rfl) Try.func3
    (ChangeSpec.witness6 (enc := enc) (C := Try.checked) false ⟨#[], #[.int .u16 0, .int .u16 0, .int .u16 0], []⟩ 8 (by kernel_rfl) (by kernel_rfl) (by kernel_rfl) (by kernel_rfl)) ?_
  intro W base args ds gs before hval0 hW hcnd _
  have hval : ∀ (j : Nat) t v, Try.f3.params[j]? = some t → args[j]? = some v → Value.okWide Try.prog W .any base t v := hval0
  have hW' := hW
  obtain ⟨p, q, hA0, hV, rfl, hfz, hnd⟩ := hW
  have hA : DataW.TrodAll enc Try.prog W 0 (fun _ => true) true Try.f3.params.toList args.toList ds p := hA0
  rw [Try.params3] at hA hval
  obtain ⟨v0, vs0, d0, ds0, p0, q0, hargs, rfl, rfl, h0, r0⟩ := trodAll_cons hA
  obtain ⟨v1, vs1, d1, ds1, p1, q1, rfl, rfl, rfl, h1, r1⟩ := trodAll_cons r0
  obtain ⟨v2, vs2, d2, ds2, p2, q2, rfl, rfl, rfl, h2, r2⟩ := trodAll_cons r1
  obtain ⟨rfl, rfl, rfl⟩ := trodAll_nil r2
  obtain rfl : args = #[v0, v1, v2] := by cases args; simp_all
  obtain ⟨rfl, rfl⟩ := trodVars_none hV
  obtain ⟨a0, rfl, rfl, rfl, w0⟩ := open_int Try.underlying22 (hval 0 22 v0 rfl rfl) h0
  obtain ⟨a1, rfl, rfl, rfl, w1⟩ := open_int Try.underlying22 (hval 1 22 v1 rfl rfl) h1
  obtain ⟨a2, rfl, rfl, rfl, w2⟩ := open_int Try.underlying22 (hval 2 22 v2 rfl rfl) h2
  clear hA0 hval0
  simp only [List.append_nil] at hW'
  refine (walk a0 a1 a2 w0 w1 w2 W).mono fun e W' ⟨he, hg⟩ => ?_
  subst he
  exact ⟨_, rfl, post_of_same (pa := []) (pv := []) hW' (fun _ _ _ => (trodAll_cons_mk (shut_bool Try.underlying4 _) trodAll_mk0)) (fun sp _ => (trodAll_cons_mk (shut_int Try.underlying22 w0) (trodAll_cons_mk (shut_int Try.underlying22 w1) (trodAll_cons_mk (shut_int Try.underlying22 w2) trodAll_mk0)))) (fun _ _ => rfl) rfl
    (hg.frame _) hg.2.1 (ok_one (by kernel_rfl) rfl (okWide_bool_mk Try.underlying4 _))⟩

theorem over : Rows.fnUpdateUndoesItselfAndIsOnesComplementSumRow.holds Try.pinned (OpenSpec.ofChange Rows.fnUpdateUndoesItselfAndIsOnesComplementSumSpec) :=
  OpenClaim.holds_of_wide 3 Try.f3 rfl rfl rfl rfl rfl rfl rfl ⟨rfl, rfl, rfl, rfl, rfl⟩ rfl rfl rfl rfl rfl (by kernel_rfl) Try.func3 (by kernel_rfl)
    (of_decide_eq_true (by kernel_rfl)) (by unfold Func.isWrapper; first | (rw [if_pos (by decide +kernel)]; kernel_rfl) | (rw [if_neg (by decide +kernel)]; exact ⟨rfl, rfl⟩))
    (fun os started H enc _ => lifted os started H enc)

/-- THE STATEMENT -/
theorem proved : Rows.FnUpdateUndoesItselfAndIsOnesComplementSumSaid :=
  over
end Go.Proofs.Qxb6617741a.fnUpdateUndoesItselfAndIsOnesComplementSum
