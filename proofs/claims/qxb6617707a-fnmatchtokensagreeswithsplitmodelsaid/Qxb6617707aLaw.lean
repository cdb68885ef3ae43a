import Derived.Test.Qxb6617707aMatch
import Derived.Test.Qxb6617707aModelK0
import Derived.Test.Qxb6617707aModelK1
import Derived.Test.Qxb6617707aModelK2
import Derived.Test.Qxb6617707aModelK3
import Derived.Test.Qxb6617707aModelK4
import Derived.Test.Qxb6617707aModelK5
namespace Go.Proofs.Qxb6617707a
open Go.RowKit Go.Deep

theorem model_any {Bd mb n N kc bc sc : Nat} {ka ba sa : Option Addr} {s : ByteArray} {K B : Nat → Int} {S : Nat → Nat → Bool} (hc : Ctx Bd mb n N s K) (r : Nat) :
    ModelAt Bd mb n N kc bc sc ka ba sa s K B S r := by
  induction r with
  | zero =>
    intro i j zi zj w ei ej hr hi hj ha hm
    subst ei ej
    obtain ⟨p, v, hpe, hp, hpN, hN, hcell, hfr, hv⟩ := start hc hm hi hj
    rcases hv with rfl | hv
    · obtain rfl : i = n := by omega
      exact model_base hc j w hj hm p hpe hp hpN hN hcell hfr
    · have h := model_hit (kc := kc) (bc := bc) (sc := sc) (ka := ka) (ba := ba) (sa := sa) hc i j w hi hj hm p v hp hpN hN hcell hv
      rw [hr] at h
      exact h
  | succ r ih =>
    intro i j zi zj w ei ej hr hi hj ha hm
    subst ei ej
    obtain ⟨p, v, hpe, hp, hpN, hN, hcell, hfr, hv⟩ := start hc hm hi hj
    rcases hv with rfl | hv
    · obtain ⟨h0, h5⟩ := hc.hK i (by omega)
      by_cases e0 : K i = 0
      · exact model_lit hc r ih i j w hr hj ha hm e0 p hpe hp hpN hN hcell hfr
      by_cases e1 : K i = 1
      · exact model_one hc r ih i j w hr hj ha hm e1 p hpe hp hpN hN hcell hfr
      by_cases e2 : K i = 2
      · exact model_set hc r ih i j w hr hj ha hm e2 p hpe hp hpN hN hcell hfr
      by_cases e3 : K i = 3
      · exact model_star hc r ih i j w hr hj ha hm e3 p hpe hp hpN hN hcell hfr
      by_cases e4 : K i = 4
      · exact model_anything hc r ih i j w hr hj ha hm e4 p hpe hp hpN hN hcell hfr
      · exact model_dirs hc r ih i j w hr hj ha hm (by omega) p hpe hp hpN hN hcell hfr
    · have h := model_hit (kc := kc) (bc := bc) (sc := sc) (ka := ka) (ba := ba) (sa := sa) hc i j w hi hj hm p v hp hpN hN hcell hv
      rw [hr] at h
      exact h

theorem info33 : (Try.prog.info? 33).map (fun i => (i.zero, i.size, i.bytes)) = some (some (.int .i8 0), 1, 1) := by kernel_rfl

theorem memo_made (w : World) (n m N : Nat) (hN : N = (n + 1) * (m + 1)) (M : Nat → Nat → Prop) : Memo (w.alloc (.cells (madeCells #[.int .i8 0] N) 33)) w.heap.size n m M := by
  subst hN
  exact ⟨fun _ => 0, World.rowIs_made w (.int .i8 0) _ 33, fun i j _ _ => Or.inl rfl⟩

theorem Args.mono {w : World} {Bd Bd' n : Nat} {ka ba sa : Option Addr} {K B : Nat → Int} {S : Nat → Nat → Bool} (h : Args w Bd n ka ba sa K B S) (hb : Bd ≤ Bd') : Args w Bd' n ka ba sa K B S where
  k := fun i hi => by obtain ⟨b, o, e, hlt, hc⟩ := h.k i hi; exact ⟨b, o, e, Nat.lt_of_lt_of_le hlt hb, hc⟩
  b := fun i hi => by obtain ⟨b, o, e, hlt, hc⟩ := h.b i hi; exact ⟨b, o, e, Nat.lt_of_lt_of_le hlt hb, hc⟩
  s := fun i hi => by obtain ⟨b, o, e, hlt, hc⟩ := h.s i hi; exact ⟨b, o, e, Nat.lt_of_lt_of_le hlt hb, hc⟩

set_option maxHeartbeats 400000 in
theorem zzmatch_any (Bd tb n tc : Nat) (s : ByteArray) (K B : Nat → Int) (S : Nat → Nat → Bool) (w : World) (hs : s.size ≤ 512) (hn : n ≤ 512)
    (ht : Toks w Bd tb n K B S) (htb : tb < w.heap.size) (hBd : Bd ≤ w.heap.size) (hK : ∀ i, i < n → 0 ≤ K i ∧ K i ≤ 5) :
    Calls Try.prog 8 #[.slice (some ⟨tb, 0, none⟩) n tc, .string s] w fun e w' => e = .returned (.bool (dp K B S (txt s) n s.size)) ∧ Below w.heap.size w w' := by
  have HT : Hid (Toks w Bd tb n K B S) := ht
  have HK : Hid (∀ i, i < n → 0 ≤ K i ∧ K i ≤ 5) := hK
  clear ht hK
  go_enter Try.func8, Try.ntmps8
  go_wp2_with fail
  refine (match_any Bd tb n tc s K B S _ hs hn HT.out htb hBd HK.out).mono ?_
  rintro e w1 ⟨rfl, hb1⟩
  have HB1 : Hid (Below w.heap.size w w1) := hb1
  clear hb1
  go_wp2_with fail
  go_ret
  exact ⟨rfl, HB1.out⟩

set_option maxRecDepth 100000 in
set_option maxHeartbeats 1000000 in
theorem law_any (ka ba sa : Option Addr) (kn kc bn bc sn sc : Nat) (s : ByteArray) (K B : Nat → Int) (S : Nat → Nat → Bool) (w : World) (hs : s.size ≤ maxLen)
    (hk : ∀ i, i < kn → ∃ b o, ka = some ⟨b, o, none⟩ ∧ b < w.heap.size ∧ w.cell? ⟨b, o + i, none⟩ = some (.int .u8 (K i)))
    (hb : ∀ i, i < bn → ∃ b o, ba = some ⟨b, o, none⟩ ∧ b < w.heap.size ∧ w.cell? ⟨b, o + i, none⟩ = some (.int .u8 (B i)))
    (hS : ∀ i, i < sn → ∃ b o, sa = some ⟨b, o, none⟩ ∧ b < w.heap.size ∧ ∀ c, c < 256 → w.cell? ⟨b, o + i * 256 + c, none⟩ = some (.bool (S i c)))
    (hK0 : ∀ i, i < kn → 0 ≤ K i) :
    Calls Try.prog 3 #[.slice ka kn kc, .slice ba bn bc, .slice sa sn sc, .string s] w fun e w' => e = .returned (.bool true) ∧ Below w.heap.size w w' := by
  have HK : Hid (∀ i, i < kn → ∃ b o, ka = some ⟨b, o, none⟩ ∧ b < w.heap.size ∧ w.cell? ⟨b, o + i, none⟩ = some (.int .u8 (K i))) := hk
  have HBs : Hid (∀ i, i < bn → ∃ b o, ba = some ⟨b, o, none⟩ ∧ b < w.heap.size ∧ w.cell? ⟨b, o + i, none⟩ = some (.int .u8 (B i))) := hb
  have HS : Hid (∀ i, i < sn → ∃ b o, sa = some ⟨b, o, none⟩ ∧ b < w.heap.size ∧ ∀ c, c < 256 → w.cell? ⟨b, o + i * 256 + c, none⟩ = some (.bool (S i c))) := hS
  have HK0 : Hid (∀ i, i < kn → 0 ≤ K i) := hK0
  have HSZ : Hid (s.size ≤ maxLen) := hs
  clear hk hb hS hK0
  unfold maxLen at hs
  go_enter Try.func3, Try.ntmps3
  go_wp2_with fail
  refine (bytes_any _ _ _ _ _ _ _ _ _ _ _ HSZ.out).mono ?_
  rintro e w0 ⟨r0, rfl, rfl⟩
  cases r0
  · go_wp2_with fail
    go_ret
    exact ⟨rfl, Below.refl _ _⟩
  · by_cases he : kn = bn ∧ kn = sn ∧ kn ≤ 512 ∧ s.size ≤ 512
    · obtain ⟨rfl, rfl, h1, h2⟩ := he
      have HA : Hid (Args w0 w0.heap.size kn ka ba sa K B S) := ⟨HK.out, HBs.out, HS.out⟩
      clear HBs HS hs HSZ
      obtain ⟨N, hN⟩ : ∃ N, N = (kn + 1) * (s.size + 1) := ⟨_, rfl⟩
      have hNb : N ≤ 263169 := by
        have h : (kn + 1) * (s.size + 1) ≤ 513 * 513 := Nat.mul_le_mul (by omega) (by omega)
        omega
      have hNI : ((kn : Int) + 1) * ((s.size : Int) + 1) = (N : Int) := by rw [hN]; simp
      have HN : Hid (N = (kn + 1) * (s.size + 1)) := hN
      clear hN
      go_wp2_with fail
      refine (known_any _ _ _ K _ (by omega) (fun i hi => by obtain ⟨b, o, e1, _, e2⟩ := HK.out i hi; exact ⟨b, o, e1, e2⟩)).mono ?_
      rintro e w1 ⟨r1, rfl, hk5, rfl⟩
      cases r1
      · clear hk5
        go_wp2_with fail
        go_ret
        exact ⟨rfl, Below.refl _ _⟩
      · have HK5 : Hid (∀ i, i < kn → 0 ≤ K i ∧ K i ≤ 5) := fun i hi => ⟨HK0.out i hi, hk5 rfl i hi⟩
        clear hk5 HK0 HK
        have hmk := fun w => run_make_row' (P := Try.prog) 26 33 (.int .i8 0) 1 Try.underlying26 info33 rfl .i64 .i64 N (by omega) (by omega) w
        go_wp2_with fail
        refine (model_any (Bd := w1.heap.size) (mb := w1.heap.size) (n := kn) (N := N) (s := s) (K := K) (B := B) (S := S) ⟨h2, h1, HN.out, Nat.le_refl _, HK5.out⟩ kn 0 0 _ _ _ rfl rfl (by omega) (by omega) (by omega) ?_ ?_).mono ?_
        · exact HA.out.later ((Below.refl _ _).alloc (Nat.le_refl _) _)
        · exact memo_made _ _ _ _ HN.out _
        rintro e w2 ⟨b, rfl, hbb, _, hb2⟩
        have HB2 : Hid (Below w1.heap.size w1 w2) := ((Below.refl _ _).alloc (Nat.le_refl _) _).trans hb2
        have HD : Hid (dp K B S (txt s) kn s.size = b) := by
          show dp K B S (txt s) kn s.size = b
          rw [Bool.eq_iff_iff, hbb]
          exact dp_iff kn s.size K B S (txt s)
        clear hb2 hbb hmk hNI
        go_wp2_with fail
        refine (build_any ka ba sa kn kc bc sc K B S w2 h1 ((HA.out.later HB2.out).mono HB2.out.size)).mono ?_
        rintro e w3 ⟨rfl, ht3, hl3, hb3⟩
        have HT3 : Hid (Toks w3 w2.heap.size w2.heap.size kn K B S ∧ w2.heap.size < w3.heap.size ∧ Below w2.heap.size w2 w3) := ⟨ht3, hl3, hb3⟩
        clear ht3 hl3 hb3
        go_wp2_with fail
        refine (zzmatch_any w2.heap.size w2.heap.size kn kn s K B S w3 h2 h1 HT3.out.1 HT3.out.2.1 (Nat.le_of_lt HT3.out.2.1) HK5.out).mono ?_
        rintro e w4 ⟨he4, hb4⟩
        rw [HD.out] at he4
        subst he4
        have HB4 : Hid (Below w1.heap.size w1 w4) := HB2.out.trans ((HT3.out.2.2.trans (hb4.mono HT3.out.2.2.size)).mono HB2.out.size)
        clear hb4
        cases b
        · go_wp2_with fail
          go_ret
          exact ⟨rfl, HB4.out⟩
        · go_wp2_with fail
          go_ret
          exact ⟨rfl, HB4.out⟩
    · have He : Hid (¬ (kn = bn ∧ kn = sn ∧ kn ≤ 512 ∧ s.size ≤ 512)) := he
      clear he
      go_wp2_with fail
      all_goals first
        | (go_ret; exact ⟨rfl, Below.refl _ _⟩)
        | (exfalso
           have hne : ((sn : Int) != (kn : Int)) = false := by assumption
           have hne2 : (sn : Int) = (kn : Int) := by simpa using hne
           exact He.out ⟨by omega, by omega, by omega, by omega⟩)
end Go.Proofs.Qxb6617707a
