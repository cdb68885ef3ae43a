import Derived.Test.Qxb6617707aModelA
namespace Go.Proofs.Qxb6617707a
open Go.RowKit Go.Deep
section
variable {Bd mb n N kc bc sc : Nat} {ka ba sa : Option Addr} {s : ByteArray} {K B : Nat → Int} {S : Nat → Nat → Bool}

set_option maxRecDepth 100000 in
set_option maxHeartbeats 1000000 in
theorem model_set (hc : Ctx Bd mb n N s K) (r : Nat) (ih : ModelAt Bd mb n N kc bc sc ka ba sa s K B S r) (i j : Nat) (w : World) (hi : n - i = r + 1) (hj : j ≤ s.size) (ha : Args w Bd n ka ba sa K B S) (hm : Memo w mb n s.size (ModP n s.size K B S (txt s))) (hk : K i = 2)
    (p : Nat) (hpe : p = i * (s.size + 1)) (hp : (i : Int) * ((s.size : Int) + 1) = (p : Int)) (hpN : (p : Int) + j < (N : Int)) (hN : (N : Int) ≤ 263169) (hcell : w.cell? ⟨mb, p + j, none⟩ = some (.int .i8 0)) (hfr : w.frozen? ⟨mb, p + j, none⟩ = false) :
    Calls Try.prog 7 #[.slice ka n kc, .slice ba n bc, .slice sa n sc, .string s, .int .i64 i, .int .i64 j, .slice (some ⟨mb, 0, none⟩) N N] w (RetMod Bd mb n s.size (ModP n s.size K B S (txt s)) (r + 1) j w) := by
  have hs := hc.hs
  have hn := hc.hn
  have hin : i < n := by omega
  have HB : Hid (Bd ≤ mb) := hc.hmb
  have HM : Hid (Memo w mb n s.size (ModP n s.size K B S (txt s))) := hm
  have HP : Hid (p = i * (s.size + 1)) := hpe
  have HR : Hid (n - i = r + 1) := hi
  have HMod : Hid (ModP n s.size K B S (txt s) (r + 1) j ↔ j < s.size ∧ takesB (K i) (B i) (S i) (txt s j) = true ∧ ModP n s.size K B S (txt s) r (j + 1)) := mod_one hi (by omega) (by omega) (by omega) j
  have HA : Hid (Args w Bd n ka ba sa K B S) := ha
  obtain ⟨kb, ko, rfl, hkl, hkc⟩ := ha.k i hin
  obtain ⟨sb, so, rfl, hsl, hsc⟩ := ha.s i hin
  rw [hk] at hkc
  have HK0 : Hid (K i = 2) := hk
  have hne : ((i : Int) == (n : Int)) = false := by rw [beq_eq_false_iff_ne]; omega
  clear hm hc hpe hi ha hk
  by_cases hlt : j < s.size
  · have hidx := index_txt s j hlt
    obtain ⟨c, hcE⟩ : ∃ c : Int, txt s j = c := ⟨_, rfl⟩
    rw [hcE] at hidx
    have HC : Hid (txt s j = c) := hcE
    clear hcE
    have hc0 : 0 ≤ c := by rw [← HC.out]; exact txt_lo s j
    have hc255 : c ≤ 255 := by rw [← HC.out]; exact txt_hi s j
    have hc256 : c < 256 := by omega
    have hcs := hsc c.toNat (by omega)
    clear hsc
    cases hb : S i c.toNat
    · have HT : Hid (takesB (K i) (B i) (S i) (txt s j) = false) := by rw [HC.out, HK0.out]; (show takesB 2 _ _ _ = false); simp [takesB, hb]
      rw [hb] at hcs
      have hlt1 : decide ((j : Int) < (s.size : Int)) = true := by simp; omega
      clear hb
      go_enter Try.func7, Try.ntmps7
      go_wp2_with fail
      go_quiet (fail)
      go_wp2_with fail
      go_ret
      go_light
      refine (fin_no HM.out (Below.refl _ _) HB.out (by omega) hj HP.out HR.out ?_).drewN _
      rw [HMod.out, HT.out]
      rintro ⟨_, h, _⟩
      cases h
    · have HT : Hid (takesB (K i) (B i) (S i) (txt s j) = true) := by rw [HC.out, HK0.out]; (show takesB 2 _ _ _ = true); simp [takesB, hb]
      rw [hb] at hcs
      have hlt1 : decide ((j : Int) < (s.size : Int)) = true := by simp; omega
      clear hb
      go_enter Try.func7, Try.ntmps7
      go_wp2_with fail
      have hw1 : IntKind.i64.wrap ((i : Int) + 1) = (i : Int) + 1 := by rw [IntKind.wrap_i64]; omega
      have hw2 : IntKind.i64.wrap ((j : Int) + 1) = (j : Int) + 1 := by rw [IntKind.wrap_i64]; omega
      go_region_held3 (fun w' => w'.cell? ⟨sb, so + i * 256 + c.toNat, none⟩ = some (.bool true)) (go_keep) (first | (go_at_call 7; refine (ih (i + 1) (j + 1) _ _ _ ?_ ?_ ?_ ?_ ?_ ?_ ?_).mono ?_; (omega); (omega); (have := HR.out; omega); (omega); (omega); (exact HA.out.later (Below.refl _ _).drew); (exact HM.out.drew); rintro e w1 ⟨b, rfl, hbb, hm1, hb1⟩; have hcb1 := ((below_undrew hb1).cell (p := ⟨sb, so + i * 256 + c.toNat, none⟩) hsl).trans hcs))
      all_goals
        have hb2 : Hid (Below Bd w w1) := below_undrew hb1
        have HM1 : Hid (Memo w1 mb n s.size (ModP n s.size K B S (txt s))) := hm1
        have HBB : Hid (b = true ↔ ModP n s.size K B S (txt s) r (j + 1)) := hbb
        obtain ⟨⟨v1, hc1⟩, hf1⟩ := HM1.out.cellAt (i := i) (j := j) (by omega) hj HP.out
        clear hb1 hm1 hbb
        cases b
        · go_wp2_with fail
          go_ret
          refine fin_no HM1.out hb2.out HB.out (by omega) hj HP.out HR.out ?_
          rw [HMod.out]
          rintro ⟨_, _, h⟩
          cases HBB.out.2 h
        · go_wp2_with fail
          go_ret
          refine fin_yes HM1.out hb2.out HB.out (by omega) hj HP.out HR.out ?_
          rw [HMod.out]
          exact ⟨hlt, HT.out, HBB.out.1 (by simp)⟩
  · have hlt1 : decide ((j : Int) < (s.size : Int)) = false := by simp; omega
    go_enter Try.func7, Try.ntmps7
    go_wp2_with fail
    go_quiet (fail)
    go_wp2_with fail
    go_ret
    go_light
    refine (fin_no HM.out (Below.refl _ _) HB.out (by omega) hj HP.out HR.out ?_).drewN _
    rw [HMod.out]
    rintro ⟨h, _, _⟩
    exact hlt h
end
end Go.Proofs.Qxb6617707a
