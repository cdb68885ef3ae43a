import Derived.Test.Qxb6617741aWalkB
import Derived.WalkKit
import Derived.ProofKit
import Derived.OpenShut
import Derived.ShutString
import Derived.ChangeOld
import Derived.Below
namespace Go.Proofs.Qxb6617741a.fnUpdateAgreesWithFullRecompute
open Go.ChangeShapes Go.WideShapes Go.ChangeAt Go.RowKit
open Go.ChangeMaps (open_string shut_string)
set_option linter.unusedVariables false

theorem own : ownKnob Try.prog.godebug = none := by kernel_rfl
theorem laidOut : laidOutB Try.prog = true := by kernel_rfl

/-- WHAT THE WALK IS TOLD OF A SLICE OF INTEGERS THAT CAME IN: it is nil; or it leads to a row of 'cap' cells, the numbers 'zs' (the first 'len' are its elements, the rest its spare room), each fitting its kind. -/
def IsRow (k : IntKind) (w : World) (a : Option Addr) (len cap : Nat) (zs : List Int) : Prop :=
  (a = none ∧ len = 0 ∧ cap = 0 ∧ zs = []) ∨
  ∃ x, a = some x ∧ len ≤ cap ∧ cap ≤ maxLen ∧ zs.length = cap ∧ (∀ i, i < zs.length → w.cell? (x.add i) = some (.int k (zs.getD i 0))) ∧ ∀ n ∈ zs, (Lit.int k n).wf = true

theorem law_red (T z v : Int) (hz0 : 0 ≤ z) (hz1 : z ≤ 65535) (hzT : z ≤ T) (hv0 : 0 ≤ v) (hv1 : v ≤ 65535) :
    65535 - red ((65535 - (65535 - red T)) + (65535 - z) + v) = if T - z + v = 0 then 0 else 65535 - red (T - z + v) := by
  unfold red
  split <;> split <;> split <;> omega

theorem le_total (Z : Nat → Int) (n : Nat) (h : ∀ i, i < n → 0 ≤ Z i ∧ Z i ≤ 65535) (i : Nat) (hi : i < n) : Z i ≤ total Z n := by
  have h1 := total_set Z i 0 n hi
  have h2 := (total_range (fun j => if j = i then 0 else Z j) n (fun j hj => by by_cases e : j = i <;> simp [e]; exact h j hj) n (Nat.le_refl _)).1
  omega

set_option maxHeartbeats 1000000 in
theorem walk (a0 : Option Addr) (len0 cap0 : Nat) (z0 : List Int) (a1 : Int) (a2 : Int) (w : World) (w0 : IsRow .u16 w a0 len0 cap0 z0) (w1 : (Lit.int .i64 a1).wf = true) (w2 : (Lit.int .u16 a2).wf = true) :
    Calls Try.prog 4 #[.slice a0 len0 cap0, .int .i64 a1, .int .u16 a2] w fun e w' => e = .returned (.bool true) ∧ Below w.heap.size w w' := by
  obtain ⟨l2, u2⟩ := bounds_u16 w2
  clear w1 w2
  have HW0 : Hid (IsRow .u16 w a0 len0 cap0 z0) := w0
  clear w0
  by_cases hin : len0 ≤ 65536 ∧ 0 ≤ a1 ∧ a1 < (len0 : Int)
  · obtain ⟨hl, h0, h1⟩ := hin
    obtain ⟨k, rfl⟩ := Int.eq_ofNat_of_zero_le h0
    have hk : k < len0 := by omega
    clear h0
    obtain ⟨b, o, rfl, hbl, Z, hZ, hc⟩ : ∃ b o, a0 = some ⟨b, o, none⟩ ∧ b < w.heap.size ∧ ∃ Z : Nat → Int, (∀ i, i < len0 → 0 ≤ Z i ∧ Z i ≤ 65535) ∧ ∀ i, i < len0 → w.cell? ⟨b, o + i, none⟩ = some (.int .u16 (Z i)) := by
      rcases HW0.out with ⟨_, h, _⟩ | ⟨x, rfl, hlc, hcm, hz, hcell, hwz⟩
      · omega
      · obtain ⟨b, o, rfl, hc⟩ := ints_at hcell (by omega)
        refine ⟨b, o, rfl, ?_, fun i => z0.getD i 0, fun i hi => ?_, fun i hi => hc i (by omega)⟩
        · have h := hc 0 (by omega)
          unfold World.cell? at h
          split at h
          · rename_i hb
            obtain ⟨hlt, _⟩ := Array.getElem?_eq_some_iff.1 hb
            exact hlt
          · cases h
        · refine bounds_u16 (hwz _ ?_)
          show z0.getD i 0 ∈ z0
          rw [List.getD_eq_getElem?_getD, List.getElem?_eq_getElem (by omega)]
          exact List.getElem_mem _
    have HZ : Hid (∀ i, i < len0 → 0 ≤ Z i ∧ Z i ≤ 65535) := hZ
    have HC : Hid (∀ i, i < len0 → w.cell? ⟨b, o + i, none⟩ = some (.int .u16 (Z i))) := hc
    have hl' : (len0 : Int) ≤ 65536 := by omega
    have HL : Hid (len0 ≤ 65536) := hl
    clear hZ hc HW0 hl
    go_enter Try.func4, Try.ntmps4
    go_wp2_with fail
    refine (bytes_any _ _ _ _ _ _).mono ?_
    rintro e wx ⟨r0, rfl, rfl⟩
    cases r0
    · go_wp2_with fail
      go_ret
      exact ⟨rfl, Below.refl _ _⟩
    · go_wp2_with fail
      refine (clone_any b o len0 cap0 Z _ HL.out hbl HC.out).mono ?_
      rintro e w1 ⟨rfl, hrow, hb1⟩
      have HR1 : Hid (w1.rowIs wx.heap.size 22 len0 (fun i => .int .u16 (Z i))) := hrow
      have HB1 : Hid (Below wx.heap.size wx w1) := hb1
      clear hrow hb1
      go_wp2_with fail
      refine (full_any _ len0 len0 Z _ HL.out HZ.out (fun i hi => ⟨_, _, rfl, by rw [Nat.zero_add]; exact HR1.out.cell hi⟩)).mono ?_
      rintro e w2 ⟨rfl, rfl⟩
      have ck := HR1.out.cell hk
      have fk := HR1.out.frozen k
      obtain ⟨z, hz⟩ : ∃ z, Z k = z := ⟨_, rfl⟩
      have HZK : Hid (Z k = z) := hz
      obtain ⟨f, hf⟩ : ∃ f, full Z len0 = f := ⟨_, rfl⟩
      have HF : Hid (full Z len0 = f) := hf
      rw [hz] at ck
      rw [hf]
      clear hz hf
      have HR2 : Hid ((w2.setCell ⟨wx.heap.size, k, none⟩ (.int .u16 a2)).rowIs wx.heap.size 22 len0 (fun i => .int .u16 (if i = k then a2 else Z i))) := (HR1.out.set k _).congr (fun i hi => by by_cases e : i = k <;> simp [e])
      go_wp2_with fail
      refine (full_any _ len0 len0 (fun i => if i = k then a2 else Z i) _ HL.out (fun i hi => ?_) (fun i hi => ⟨_, _, rfl, by rw [Nat.zero_add]; exact HR2.out.cell hi⟩)).mono ?_
      · by_cases e : i = k
        · simp [e]; omega
        · simp only [if_neg e]; exact HZ.out i hi
      rintro e w3 ⟨rfl, hw3⟩
      have zr := HZ.out k hk
      rw [HZK.out] at zr
      obtain ⟨z0', z1'⟩ := zr
      have fr := red_range (total Z len0) (total_range Z len0 HZ.out len0 (Nat.le_refl _)).1
      have f0 : 0 ≤ f ∧ f ≤ 65535 := by rw [← HF.out]; unfold full; omega
      obtain ⟨f0, f1⟩ := f0
      obtain ⟨g, hg⟩ : ∃ g, full (fun i => if i = k then a2 else Z i) len0 = g := ⟨_, rfl⟩
      have HG : Hid (full (fun i => if i = k then a2 else Z i) len0 = g) := hg
      rw [hg]
      clear hg fr
      subst hw3
      go_wp2_with fail
      refine (update_any f z a2 _ f0 f1 z0' z1' l2 u2).mono ?_
      rintro e w4 ⟨he, rfl⟩
      have hlaw := law_red (total Z len0) z a2 z0' z1' (by rw [← HZK.out]; exact le_total Z len0 HZ.out k hk) l2 u2
      have hT : total (fun i => if i = k then a2 else Z i) len0 = total Z len0 - z + a2 := by rw [total_set Z k a2 len0 hk, HZK.out]
      have hf' : f = 65535 - red (total Z len0) := HF.out.symm
      rw [hf', hlaw, ← hT] at he
      have HT0 : Hid (total (fun i => if i = k then a2 else Z i) len0 = 0 ↔ ∀ i, i < len0 → (fun i => if i = k then a2 else Z i) i = 0) := total_zero _ len0 (fun i hi => by
        by_cases e : i = k
        · simp only [e, if_true]; exact l2
        · simp only [if_neg e]; exact (HZ.out i hi).1) len0 (Nat.le_refl _)
      have HB4 : Hid (Below wx.heap.size wx (w2.setCell ⟨wx.heap.size, k, none⟩ (.int .u16 a2))) := HB1.out.setCell (Nat.le_refl _) _
      clear hf' hlaw hT ck fk HZK HF HR1 HB1 f0 f1 z0' z1'
      by_cases ht : total (fun i => if i = k then a2 else Z i) len0 = 0
      · rw [if_pos ht] at he
        subst he
        go_wp2_with fail
        refine (zero_any _ len0 len0 (fun i => if i = k then a2 else Z i) _ HL.out (fun i hi => ⟨_, _, rfl, by rw [Nat.zero_add]; exact HR2.out.cell hi⟩)).mono ?_
        rintro e w5 ⟨r, rfl, hr, rfl⟩
        have hrt : r = true := hr.2 (HT0.out.1 ht)
        subst hrt
        clear hr ht
        go_wp2_with fail
        go_ret
        exact ⟨rfl, HB4.out⟩
      · rw [if_neg ht] at he
        have he' : e = .returned (.int .u16 g) := by rw [← HG.out]; exact he
        subst he'
        clear he
        go_wp2_with fail
        refine (zero_any _ len0 len0 (fun i => if i = k then a2 else Z i) _ HL.out (fun i hi => ⟨_, _, rfl, by rw [Nat.zero_add]; exact HR2.out.cell hi⟩)).mono ?_
        rintro e w5 ⟨r, rfl, hr, rfl⟩
        have hrf : r = false := by
          rw [Bool.eq_false_iff]
          exact fun h => ht (HT0.out.2 (hr.1 h))
        subst hrf
        clear hr ht
        go_wp2_with fail
        go_ret
        exact ⟨rfl, HB4.out⟩
  · have HIN : Hid (¬ (len0 ≤ 65536 ∧ 0 ≤ a1 ∧ a1 < (len0 : Int))) := hin
    clear hin
    go_enter Try.func4, Try.ntmps4
    go_wp2_with fail
    refine (bytes_any _ _ _ _ _ _).mono ?_
    rintro e wx ⟨r0, rfl, rfl⟩
    cases r0
    · go_wp2_with fail
      go_ret
      exact ⟨rfl, Below.refl _ _⟩
    · go_wp2_with fail
      all_goals first
        | (go_ret; exact ⟨rfl, Below.refl _ _⟩)
        | (exfalso; exact HIN.out ⟨by omega, by omega, by omega⟩)

/-! ### THE ROW's STEP: WRITTEN OUT: LEAVE IT -/
set_option maxRecDepth 100000 in
theorem lifted (os : Os) (started : os.Started) (H : Type) (enc : TypeId × Value → H) :
    ReturnsInHanded {} Try.checked os 4 .any (Rows.fnUpdateAgreesWithFullRecomputeSpec.pre6 enc Try.prog Try.f4 Rows.fnUpdateAgreesWithFullRecomputeRow.domain false) (Rows.fnUpdateAgreesWithFullRecomputeSpec.post enc Try.prog Try.f4 false true false false) := by
  refine returnsInHanded_of_change (C := Try.checked) own started (by kernel_rfl) Try.func4
    (ChangeSpec.witness6 (enc := enc) (C := Try.checked) false ⟨#[], #[.slice none 0 0, .int .i64 0, .int .u16 0], []⟩ 8 (by kernel_rfl) (by kernel_rfl) (by kernel_rfl) (by kernel_rfl)) ?_
  intro W base args ds gs before hval0 hW hcnd _
  have hval : ∀ (j : Nat) t v, Try.f4.params[j]? = some t → args[j]? = some v → Value.okWide Try.prog W .any base t v := hval0
  have hW' := hW
  obtain ⟨p, q, hA0, hV, rfl, hfz, hnd⟩ := hW
  have hA : DataW.TrodAll enc Try.prog W 0 (fun _ => true) true Try.f4.params.toList args.toList ds p := hA0
  rw [Try.params4] at hA hval
  obtain ⟨v0, vs0, d0, ds0, p0, q0, hargs, rfl, rfl, h0, r0⟩ := trodAll_cons hA
  obtain ⟨v1, vs1, d1, ds1, p1, q1, rfl, rfl, rfl, h1, r1⟩ := trodAll_cons r0
  obtain ⟨v2, vs2, d2, ds2, p2, q2, rfl, rfl, rfl, h2, r2⟩ := trodAll_cons r1
  obtain ⟨rfl, rfl, rfl⟩ := trodAll_nil r2
  obtain rfl : args = #[v0, v1, v2] := by cases args; simp_all
  obtain ⟨rfl, rfl⟩ := trodVars_none hV
  obtain ⟨a0, len0, cap0, rfl⟩ := okWide_slice Try.underlying26 (hval 0 26 v0 rfl rfl)
  have k0 := h0
  have lt0 : ∀ x ∈ p0, x.block < W.heap.size := by obtain ⟨m, hm⟩ := k0; exact DataW.trod_lt m _ _ _ hm
  obtain ⟨z0, w0⟩ : ∃ zs, IsRow .u16 W a0 len0 cap0 zs := by
    obtain ⟨fuel, hf⟩ := h0
    rcases open_ints Try.underlying26 Try.underlying22 (by kernel_rfl) hf with ⟨hcs, _⟩ | ⟨x, l, c, zs, hcs, _, hl, hm, hz, _, hcell, hwz⟩
    · simp [Value.cells] at hcs
      obtain ⟨rfl, rfl, rfl⟩ := hcs
      exact ⟨[], .inl ⟨rfl, rfl, rfl, rfl⟩⟩
    · simp [Value.cells] at hcs
      obtain ⟨rfl, rfl, rfl⟩ := hcs
      exact ⟨zs, .inr ⟨_, rfl, hl, hm, by simpa using hz, hcell, hwz⟩⟩
  obtain ⟨a1, rfl, rfl, rfl, w1⟩ := open_int Try.underlying3 (hval 1 3 v1 rfl rfl) h1
  obtain ⟨a2, rfl, rfl, rfl, w2⟩ := open_int Try.underlying22 (hval 2 22 v2 rfl rfl) h2
  clear hA0 hval0
  refine (walk a0 len0 cap0 z0 a1 a2 W w0 w1 w2).mono fun e W' ⟨he, bel⟩ => ?_
  subst he
  exact ⟨_, rfl, _, _, _, [], _, [], hW', trodAll_mk1 (shut_bool Try.underlying4 _), (trodAll_cons_mk (Below.trod laidOut (by kernel_rfl) (of_decide_eq_true (by kernel_rfl)) k0 bel lt0) (trodAll_cons_mk (shut_int Try.underlying3 w1) (trodAll_cons_mk (shut_int Try.underlying22 w2) trodAll_mk0))), rfl, bel.frame _, fun h => by cases h⟩

theorem over : Rows.fnUpdateAgreesWithFullRecomputeRow.holds Try.pinned (OpenSpec.ofChange Rows.fnUpdateAgreesWithFullRecomputeSpec) :=
  OpenClaim.holds_of_wide 4 Try.f4 rfl rfl rfl rfl rfl rfl rfl ⟨rfl, rfl, rfl, rfl, rfl⟩ rfl rfl rfl rfl rfl (by kernel_rfl) Try.func4 (by kernel_rfl)
    (of_decide_eq_true (by kernel_rfl)) (by unfold Func.isWrapper; first | (rw [if_pos (by decide +kernel)]; kernel_rfl) | (rw [if_neg (by decide +kernel)]; exact ⟨rfl, rfl⟩))
    (fun os started H enc _ => lifted os started H enc)

/-- THE STATEMENT -/
theorem proved : Rows.FnUpdateAgreesWithFullRecomputeSaid := over
end Go.Proofs.Qxb6617741a.fnUpdateAgreesWithFullRecompute
