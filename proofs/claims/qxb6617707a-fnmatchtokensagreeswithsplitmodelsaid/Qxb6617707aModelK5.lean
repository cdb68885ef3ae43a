import Derived.Test.Qxb6617707aModelA
namespace Go.Proofs.Qxb6617707a
open Go.RowKit Go.Deep
section
variable {Bd mb n N kc bc sc : Nat} {ka ba sa : Option Addr} {s : ByteArray} {K B : Nat → Int} {S : Nat → Nat → Bool}

set_option maxRecDepth 100000 in
set_option maxHeartbeats 1000000 in
theorem model_dirs (hc : Ctx Bd mb n N s K) (r : Nat) (ih : ModelAt Bd mb n N kc bc sc ka ba sa s K B S r) (i j : Nat) (w : World) (hi : n - i = r + 1) (hj : j ≤ s.size) (ha : Args w Bd n ka ba sa K B S) (hm : Memo w mb n s.size (ModP n s.size K B S (txt s))) (hk : K i = 5)
    (p : Nat) (hpe : p = i * (s.size + 1)) (hp : (i : Int) * ((s.size : Int) + 1) = (p : Int)) (hpN : (p : Int) + j < (N : Int)) (hN : (N : Int) ≤ 263169) (hcell : w.cell? ⟨mb, p + j, none⟩ = some (.int .i8 0)) (_hfr : w.frozen? ⟨mb, p + j, none⟩ = false) :
    Calls Try.prog 7 #[.slice ka n kc, .slice ba n bc, .slice sa n sc, .string s, .int .i64 i, .int .i64 j, .slice (some ⟨mb, 0, none⟩) N N] w (RetMod Bd mb n s.size (ModP n s.size K B S (txt s)) (r + 1) j w) := by
  have hs := hc.hs
  have hn := hc.hn
  have hin : i < n := by omega
  have HB : Hid (Bd ≤ mb) := hc.hmb
  have HM : Hid (Memo w mb n s.size (ModP n s.size K B S (txt s))) := hm
  have HP : Hid (p = i * (s.size + 1)) := hpe
  have HR : Hid (n - i = r + 1) := hi
  have HMod : Hid (ModP n s.size K B S (txt s) (r + 1) j ↔ ModP n s.size K B S (txt s) r j ∨ ∃ c, j < c ∧ c ≤ s.size ∧ txt s (c - 1) = 47 ∧ ModP n s.size K B S (txt s) r c) := mod_dirs hi hk j hj
  have HA : Hid (Args w Bd n ka ba sa K B S) := ha
  obtain ⟨kb, ko, rfl, hkl, hkc⟩ := ha.k i hin
  rw [hk] at hkc
  have HK0 : Hid (K i = 5) := hk
  have hne : ((i : Int) == (n : Int)) = false := by rw [beq_eq_false_iff_ne]; omega
  clear hm hc hpe hi ha hk
  go_enter Try.func7, Try.ntmps7
  go_wp2_with fail
  refine (ih (i + 1) j _ _ _ ?_ ?_ ?_ ?_ ?_ ?_ ?_).mono ?_
  · omega
  · omega
  · have := HR.out; omega
  · omega
  · omega
  · exact HA.out
  · exact HM.out
  rintro e w0 ⟨b0, rfl, hbb0, hm0, hb0⟩
  have HZ : Hid (Memo w0 mb n s.size (ModP n s.size K B S (txt s)) ∧ Below Bd w w0 ∧ (b0 = true ↔ ModP n s.size K B S (txt s) r j)) := ⟨hm0, hb0, hbb0⟩
  clear hm0 hb0 hbb0 hcell _hfr
  go_wp2_with fail
  go_loopg [17, 20] (s.size + 2) (fun gj rv kv wx => ∃ q : Nat, ∃ b : Bool, s.size + 2 ≤ gj + q ∧ j ≤ q ∧ q ≤ s.size ∧ kv = .int .i64 ((q : Int) + 1) ∧ rv = .bool b ∧ Memo wx mb n s.size (ModP n s.size K B S (txt s)) ∧ Below Bd w wx ∧ (b = true → ModP n s.size K B S (txt s) (r + 1) j) ∧ (b = false → ¬ ModP n s.size K B S (txt s) r j ∧ ∀ x, j < x → x ≤ q → ¬ (txt s (x - 1) = 47 ∧ ModP n s.size K B S (txt s) r x)))
  case atStart =>
    go_light
    refine ⟨j, b0, by omega, Nat.le_refl _, hj, rfl, rfl, HZ.out.1, HZ.out.2.1, fun h => ?_, fun h => ⟨fun h2 => ?_, by omega⟩⟩
    · rw [HMod.out]; exact Or.inl (HZ.out.2.2.1 h)
    · have := HZ.out.2.2.2 h2; rw [h] at this; cases this
  case round =>
    obtain ⟨q, b, Hq, hjq, hq, rfl, rfl, hm1, hb1, hx, hy⟩ := hrel
    have HX : Hid (s.size + 2 ≤ gk + q ∧ Memo wr mb n s.size (ModP n s.size K B S (txt s)) ∧ Below Bd w wr ∧ (b = true → ModP n s.size K B S (txt s) (r + 1) j) ∧ (b = false → ¬ ModP n s.size K B S (txt s) r j ∧ ∀ x, j < x → x ≤ q → ¬ (txt s (x - 1) = 47 ∧ ModP n s.size K B S (txt s) r x))) := ⟨Hq, hm1, hb1, hx, hy⟩
    clear Hq hm1 hb1 hx hy
    obtain ⟨⟨v1, hc1⟩, hf1⟩ := HX.out.2.1.cellAt (i := i) (j := j) (by omega) hj HP.out
    cases b
    · have HN : Hid (¬ ModP n s.size K B S (txt s) r j ∧ ∀ x, j < x → x ≤ q → ¬ (txt s (x - 1) = 47 ∧ ModP n s.size K B S (txt s) r x)) := HX.out.2.2.2.2 rfl
      by_cases hlt : q < s.size
      · have hidx := index_txt s q hlt
        obtain ⟨c, hcE⟩ : ∃ c : Int, txt s q = c := ⟨_, rfl⟩
        rw [hcE] at hidx
        have HC : Hid (txt s q = c) := hcE
        clear hcE
        have hle1 : decide ((q : Int) + 1 ≤ (s.size : Int)) = true := by simp; omega
        by_cases hb : c = 47
        · have HC47 : Hid (txt s q = 47) := HC.out.trans hb
          have hbt : (c == 47) = true := by simp [hb]
          clear hb
          go_wp2_with fail
          refine (ih (i + 1) (q + 1) _ _ _ ?_ ?_ ?_ ?_ ?_ ?_ ?_).mono ?_
          · omega
          · omega
          · have := HR.out; omega
          · omega
          · omega
          · exact HA.out.later HX.out.2.2.1
          · exact HX.out.2.1
          rintro e w1 ⟨b, rfl, hbb, hm1, hb1⟩
          have hb2 : Hid (Below Bd w w1) := HX.out.2.2.1.trans hb1
          have HM1 : Hid (Memo w1 mb n s.size (ModP n s.size K B S (txt s))) := hm1
          have HBB : Hid (b = true ↔ ModP n s.size K B S (txt s) r (q + 1)) := hbb
          clear hb1 hm1 hbb
          cases b
          · go_wp2_with fail
            go_roundg (s.size + 1 - q)
            case measure => go_light; have := HX.out.1; omega
            case rel =>
              go_light
              refine ⟨q + 1, false, by omega, by omega, by omega, by go_num, rfl, HM1.out, hb2.out, fun h => (by cases h), fun _ => ⟨HN.out.1, fun x h1 h2 => ?_⟩⟩
              by_cases e : x = q + 1
              · subst e; rintro ⟨_, h4⟩; cases HBB.out.2 h4
              · exact HN.out.2 x h1 (by omega)
          · go_wp2_with fail
            go_roundg (s.size + 1 - q)
            case measure => go_light; have := HX.out.1; omega
            case rel =>
              go_light
              refine ⟨q + 1, true, by omega, by omega, by omega, by go_num, rfl, HM1.out, hb2.out, fun _ => ?_, fun h => (by cases h)⟩
              rw [HMod.out]
              exact Or.inr ⟨q + 1, by omega, by omega, HC47.out, HBB.out.1 (by simp)⟩
        · have HC47 : Hid (txt s q ≠ 47) := by show txt s q ≠ 47; rw [HC.out]; exact hb
          have hbt : (c == 47) = false := by simp [hb]
          clear hb
          go_wp2_with fail
          go_roundg (s.size + 1 - q)
          case measure => go_light; have := HX.out.1; omega
          case rel =>
            go_light
            refine ⟨q + 1, false, by omega, by omega, by omega, by go_num, rfl, HX.out.2.1, HX.out.2.2.1, fun h => (by cases h), fun _ => ⟨HN.out.1, fun x h1 h2 => ?_⟩⟩
            by_cases e : x = q + 1
            · subst e; rintro ⟨h3, _⟩; exact HC47.out h3
            · exact HN.out.2 x h1 (by omega)
      · have hle1 : decide ((q : Int) + 1 ≤ (s.size : Int)) = false := by simp; omega
        go_wp2_with fail
        go_ret
        refine fin_no HX.out.2.1 HX.out.2.2.1 HB.out (by omega) hj HP.out HR.out ?_
        rw [HMod.out]
        rintro (h | ⟨c', h1, h2, h3, h4⟩)
        · exact HN.out.1 h
        · exact HN.out.2 c' h1 (by omega) ⟨h3, h4⟩
    · have HN : Hid (ModP n s.size K B S (txt s) (r + 1) j) := HX.out.2.2.2.1 rfl
      by_cases hlt : q < s.size
      · have hle1 : decide ((q : Int) + 1 ≤ (s.size : Int)) = true := by simp; omega
        go_wp2_with fail
        go_ret
        exact fin_yes HX.out.2.1 HX.out.2.2.1 HB.out (by omega) hj HP.out HR.out HN.out
      · have hle1 : decide ((q : Int) + 1 ≤ (s.size : Int)) = false := by simp; omega
        go_wp2_with fail
        go_ret
        exact fin_yes HX.out.2.1 HX.out.2.2.1 HB.out (by omega) hj HP.out HR.out HN.out
end
end Go.Proofs.Qxb6617707a
