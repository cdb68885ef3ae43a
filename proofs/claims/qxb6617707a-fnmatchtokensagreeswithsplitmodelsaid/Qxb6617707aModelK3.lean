import Derived.Test.Qxb6617707aModelA
namespace Go.Proofs.Qxb6617707a
open Go.RowKit Go.Deep
section
variable {Bd mb n N kc bc sc : Nat} {ka ba sa : Option Addr} {s : ByteArray} {K B : Nat → Int} {S : Nat → Nat → Bool}

set_option maxRecDepth 100000 in
set_option maxHeartbeats 1000000 in
theorem model_star (hc : Ctx Bd mb n N s K) (r : Nat) (ih : ModelAt Bd mb n N kc bc sc ka ba sa s K B S r) (i j : Nat) (w : World) (hi : n - i = r + 1) (hj : j ≤ s.size) (ha : Args w Bd n ka ba sa K B S) (hm : Memo w mb n s.size (ModP n s.size K B S (txt s))) (hk : K i = 3)
    (p : Nat) (hpe : p = i * (s.size + 1)) (hp : (i : Int) * ((s.size : Int) + 1) = (p : Int)) (hpN : (p : Int) + j < (N : Int)) (hN : (N : Int) ≤ 263169) (hcell : w.cell? ⟨mb, p + j, none⟩ = some (.int .i8 0)) (_hfr : w.frozen? ⟨mb, p + j, none⟩ = false) :
    Calls Try.prog 7 #[.slice ka n kc, .slice ba n bc, .slice sa n sc, .string s, .int .i64 i, .int .i64 j, .slice (some ⟨mb, 0, none⟩) N N] w (RetMod Bd mb n s.size (ModP n s.size K B S (txt s)) (r + 1) j w) := by
  have hs := hc.hs
  have hn := hc.hn
  have hin : i < n := by omega
  have HB : Hid (Bd ≤ mb) := hc.hmb
  have HM : Hid (Memo w mb n s.size (ModP n s.size K B S (txt s))) := hm
  have HP : Hid (p = i * (s.size + 1)) := hpe
  have HR : Hid (n - i = r + 1) := hi
  have HMod : Hid (ModP n s.size K B S (txt s) (r + 1) j ↔ ∃ c, c ≤ s.size ∧ j ≤ c ∧ (∀ x, j ≤ x → x < c → txt s x ≠ 47) ∧ ModP n s.size K B S (txt s) r c) := mod_star hi hk j
  have HA : Hid (Args w Bd n ka ba sa K B S) := ha
  obtain ⟨kb, ko, rfl, hkl, hkc⟩ := ha.k i hin
  rw [hk] at hkc
  have HK0 : Hid (K i = 3) := hk
  have hne : ((i : Int) == (n : Int)) = false := by rw [beq_eq_false_iff_ne]; omega
  clear hm hc hpe hi ha hk
  go_enter Try.func7, Try.ntmps7
  go_wp2_with fail
  go_loopg [17, 18] (s.size + 2) (fun gj rv kv wx => ∃ q : Nat, s.size + 2 ≤ gj + q ∧ j ≤ q ∧ q ≤ s.size + 1 ∧ kv = .int .i64 (q : Int) ∧ rv = .bool false ∧ Memo wx mb n s.size (ModP n s.size K B S (txt s)) ∧ Below Bd w wx ∧ (∀ x, j ≤ x → x < q → ¬ ModP n s.size K B S (txt s) r x ∧ txt s x ≠ 47))
  case atStart =>
    go_light
    exact ⟨j, by omega, Nat.le_refl _, by omega, rfl, rfl, HM.out, Below.refl _ _, by omega⟩
  case round =>
    obtain ⟨q, Hq, hjq, hq, rfl, rfl, hm1, hb1, hx⟩ := hrel
    have HX : Hid (s.size + 2 ≤ gk + q ∧ Memo wr mb n s.size (ModP n s.size K B S (txt s)) ∧ Below Bd w wr ∧ (∀ x, j ≤ x → x < q → ¬ ModP n s.size K B S (txt s) r x ∧ txt s x ≠ 47)) := ⟨Hq, hm1, hb1, hx⟩
    clear Hq hm1 hb1 hx hcell _hfr
    by_cases hle : q ≤ s.size
    · go_wp2_with fail
      refine (ih (i + 1) q _ _ _ ?_ ?_ ?_ ?_ ?_ ?_ ?_).mono ?_
      · omega
      · omega
      · have := HR.out; omega
      · omega
      · omega
      · exact HA.out.later HX.out.2.2.1
      · exact HX.out.2.1
      rintro e w1 ⟨b, rfl, hbb, hm1, hb1⟩
      have hb2 : Hid (Below Bd w w1) := HX.out.2.2.1.trans hb1
      have HM1 : Hid (Memo w1 mb n s.size (ModP n s.size K B S (txt s))) := hm1
      have HBB : Hid (b = true ↔ ModP n s.size K B S (txt s) r q) := hbb
      obtain ⟨⟨v1, hc1⟩, hf1⟩ := HM1.out.cellAt (i := i) (j := j) (by omega) hj HP.out
      clear hb1 hm1 hbb
      cases b
      · by_cases hlt : q < s.size
        · have hidx := index_txt s q hlt
          obtain ⟨c, hcE⟩ : ∃ c : Int, txt s q = c := ⟨_, rfl⟩
          rw [hcE] at hidx
          have HC : Hid (txt s q = c) := hcE
          clear hcE
          have hlt1 : decide ((q : Int) < (s.size : Int)) = true := by simp; omega
          by_cases hb : c = 47
          · have HC47 : Hid (txt s q = 47) := HC.out.trans hb
            have hbt : (c == 47) = true := by simp [hb]
            clear hb
            go_wp2_with fail
            go_ret
            refine fin_no HM1.out hb2.out HB.out (by omega) hj HP.out HR.out ?_
            rw [HMod.out]
            rintro ⟨c', h1, h2, h3, h4⟩
            rcases Nat.lt_trichotomy c' q with h | h | h
            · exact (HX.out.2.2.2 c' h2 h).1 h4
            · subst h; cases HBB.out.2 h4
            · exact h3 q hjq h HC47.out
          · have HC47 : Hid (txt s q ≠ 47) := by show txt s q ≠ 47; rw [HC.out]; exact hb
            have hbt : (c == 47) = false := by simp [hb]
            clear hb
            go_wp2_with fail
            go_roundg (s.size + 1 - q)
            case measure => go_light; have := HX.out.1; omega
            case rel =>
              go_light
              refine ⟨q + 1, by omega, by omega, by omega, by go_num, rfl, HM1.out, hb2.out, fun x h1 h2 => ?_⟩
              rcases Nat.lt_succ_iff_lt_or_eq.1 h2 with h | h
              · exact HX.out.2.2.2 x h1 h
              · subst h; exact ⟨fun h4 => (by cases HBB.out.2 h4), HC47.out⟩
        · have hlt1 : decide ((q : Int) < (s.size : Int)) = false := by simp; omega
          have HQ : Hid (q = s.size) := by show q = s.size; omega
          go_wp2_with fail
          go_roundg (s.size + 1 - q)
          case measure => go_light; have := HX.out.1; omega
          case rel =>
            go_light
            refine ⟨q + 1, by omega, by omega, by omega, by go_num, rfl, HM1.out, hb2.out, fun x h1 h2 => ?_⟩
            rcases Nat.lt_succ_iff_lt_or_eq.1 h2 with h | h
            · exact HX.out.2.2.2 x h1 h
            · subst h; exact ⟨fun h4 => (by cases HBB.out.2 h4), by rw [HQ.out]; simp [txt]⟩
      · go_wp2_with fail
        go_ret
        refine fin_yes HM1.out hb2.out HB.out (by omega) hj HP.out HR.out ?_
        rw [HMod.out]
        exact ⟨q, hle, hjq, fun x h1 h2 => (HX.out.2.2.2 x h1 h2).2, HBB.out.1 (by simp)⟩
    · obtain ⟨⟨v1, hc1⟩, hf1⟩ := HX.out.2.1.cellAt (i := i) (j := j) (by omega) hj HP.out
      go_wp2_with fail
      go_ret
      refine fin_no HX.out.2.1 HX.out.2.2.1 HB.out (by omega) hj HP.out HR.out ?_
      rw [HMod.out]
      rintro ⟨c', h1, h2, h3, h4⟩
      exact (HX.out.2.2.2 c' h2 (by omega)).1 h4
end
end Go.Proofs.Qxb6617707a
