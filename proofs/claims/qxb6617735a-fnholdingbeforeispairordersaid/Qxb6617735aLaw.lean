import Derived.Test.Qxb6617735aWalkC
namespace Go.Proofs.Qxb6617735a
open Go.RowKit

def keyOf (a c : ByteArray) : List Int := key (nums a) (nums c)

theorem esc_len (s : ByteArray) : 2 ≤ (esc (nums s)).length ∧ (esc (nums s)).length ≤ 2 * s.size + 2 := by
  have h := escBody_len (nums s)
  rw [nums_length] at h
  simp only [esc, List.length_append, List.length_cons, List.length_nil]
  omega

/-- What zzHoldingKey hands back. -/
def RetKey (a c : ByteArray) (w : World) (e : Ending) (w' : World) : Prop :=
  ∃ g cap, e = .returned (.slice (some ⟨g, 0, none⟩) (keyOf a c).length cap) ∧ g < w'.heap.size ∧ (∀ i, i < (keyOf a c).length → w'.cell? ⟨g, i, none⟩ = some (.int .u8 ((keyOf a c).getD i 0))) ∧ Below w.heap.size w w'

theorem own_open {w : World} {base n : Nat} {v : Value} {xs : List Int} (h : w.ownsRow base 5 1 v n (xs.map (Value.int .u8))) (hn : 0 < n) :
    ∃ g cap, v = .slice (some ⟨g, 0, none⟩) n cap ∧ g < w.heap.size ∧ ∀ i, i < n → w.cell? ⟨g, i, none⟩ = some (.int .u8 (xs.getD i 0)) := by
  have hl : xs.length = n := by simpa using h.1
  rcases h.2 with ⟨_, h0⟩ | ⟨g, cap, cur, rfl, hb, hg, _⟩
  · omega
  · refine ⟨g, cap, rfl, (Array.getElem?_eq_some_iff.1 hg).1, fun i hi => ?_⟩
    rw [h.cellAt i (by omega), List.getElem?_map, List.getElem?_eq_getElem (by omega), List.getD_eq_getElem?_getD, List.getElem?_eq_getElem (by omega)]
    rfl

set_option maxHeartbeats 400000 in
theorem key_any (a c : ByteArray) (w : World) (ha : a.size ≤ 262144) (hc : c.size ≤ 262144) :
    Calls Try.prog 7 #[.string a, .string c] w (RetKey a c w) := by
  obtain ⟨i0, hi, hz0, hz1, hz2⟩ := info_parts info5
  have ha' : (a.size : Int) ≤ 262144 := by omega
  have hc' : (c.size : Int) ≤ 262144 := by omega
  have hmk := fun w => run_make (P := Try.prog) (w := w) 24 5 i0 _ Try.underlying24 hi hz0 .i64 .i64 0 (2 * (a.size : Int) + 2 * (c.size : Int) + 4) (by omega) (by omega) (by rw [hz2]; omega) (by omega)
  have HA : Hid (a.size ≤ 262144) := ha
  have HC : Hid (c.size ≤ 262144) := hc
  clear ha hc
  go_enter Try.func7, Try.ntmps7
  go_wp2_with fail
  refine (escape_any w.heap.size _ 0 [] a _ ?_ ?_ (by omega) HA.out).mono ?_
  · exact World.ownsRow_made _ _ _ (Nat.le_refl _) (by unfold maxLen; omega) (by simp [size_madeCells])
  · simp
  rintro e w1 ⟨v1, rfl, hown1, hb1⟩
  rw [Nat.zero_add, List.nil_append] at hown1
  have HB1 : Hid (Below w.heap.size w w1) := ((Below.refl _ _).alloc (Nat.le_refl _) _).trans hb1
  have HO1 : Hid (w1.ownsRow w.heap.size 5 1 v1 (esc (nums a)).length ((esc (nums a)).map (Value.int .u8))) := hown1
  clear hown1 hb1 hmk
  go_wp2_with fail
  refine (escape_any w.heap.size _ _ (esc (nums a)) c _ HO1.out HB1.out.size (by have := (esc_len a).2; have := HA.out; omega) HC.out).mono ?_
  rintro e w2 ⟨v2, rfl, hown2, hb2⟩
  have e2 : (esc (nums a)).length + (esc (nums c)).length = (keyOf a c).length := by simp [keyOf, key]
  rw [e2] at hown2
  obtain ⟨g, cap, rfl, hg, hcell⟩ := own_open hown2 (by have := (esc_len a).1; omega)
  have HR : Hid (g < w2.heap.size ∧ (∀ i, i < (keyOf a c).length → w2.cell? ⟨g, i, none⟩ = some (.int .u8 ((keyOf a c).getD i 0))) ∧ Below w.heap.size w w2) := ⟨hg, hcell, HB1.out.trans hb2⟩
  clear hown2 hb2 hcell hg e2
  go_wp2_with fail
  go_ret
  exact ⟨g, cap, rfl, HR.out.1, HR.out.2.1, HR.out.2.2⟩

theorem keyOf_len (a c : ByteArray) (ha : a.size ≤ 262144) (hc : c.size ≤ 262144) : (keyOf a c).length ≤ 10000000 := by
  have h1 := (esc_len a).2
  have h2 := (esc_len c).2
  simp only [keyOf, key, List.length_append]
  omega

set_option maxRecDepth 100000 in
set_option maxHeartbeats 1000000 in
theorem law_any (a c b d : ByteArray) (w : World) (ha : a.size ≤ maxLen) (hc : c.size ≤ maxLen) (hb : b.size ≤ maxLen) (hd : d.size ≤ maxLen) :
    Calls Try.prog 3 #[.string a, .string c, .string b, .string d] w fun e w' => e = .returned (.bool true) ∧ Below w.heap.size w w' := by
  have HL : Hid (a.size ≤ maxLen ∧ c.size ≤ maxLen ∧ b.size ≤ maxLen ∧ d.size ≤ maxLen) := ⟨ha, hc, hb, hd⟩
  unfold maxLen at ha hc hb hd
  go_enter Try.func3, Try.ntmps3
  go_wp2_with fail
  refine (bytes_any a c b d _ HL.out.1 HL.out.2.1 HL.out.2.2.1 HL.out.2.2.2).mono ?_
  rintro e w0 ⟨r0, rfl, rfl⟩
  cases r0
  · go_wp2_with fail
    go_ret
    exact ⟨rfl, Below.refl _ _⟩
  · by_cases hsz : a.size ≤ 262144 ∧ c.size ≤ 262144 ∧ b.size ≤ 262144 ∧ d.size ≤ 262144
    · have HZ : Hid (a.size ≤ 262144 ∧ c.size ≤ 262144 ∧ b.size ≤ 262144 ∧ d.size ≤ 262144) := hsz
      have i1 : (a.size : Int) ≤ 262144 := by omega
      have i2 : (c.size : Int) ≤ 262144 := by omega
      have i3 : (b.size : Int) ≤ 262144 := by omega
      have i4 : (d.size : Int) ≤ 262144 := by omega
      clear hsz ha hc hb hd HL
      go_wp2_with fail
      refine (zzbefore_any a c b d _).mono ?_
      rintro e w1 ⟨rfl, hb1⟩
      have HB1 : Hid (Below w0.heap.size w0 w1) := hb1
      clear hb1
      go_wp2_with fail
      refine (zzbefore_any b d a c _).mono ?_
      rintro e w2 ⟨rfl, hb2⟩
      have HB2 : Hid (Below w0.heap.size w0 w2) := HB1.out.trans (hb2.mono HB1.out.size)
      clear hb2 HB1
      go_wp2_with fail
      refine (key_any a c _ HZ.out.1 HZ.out.2.1).mono ?_
      rintro e w3 ⟨g1, cap1, rfl, hg1, hcell1, hb3⟩
      have HK1 : Hid (g1 < w3.heap.size ∧ (∀ i, i < (keyOf a c).length → w3.cell? ⟨g1, i, none⟩ = some (.int .u8 ((keyOf a c).getD i 0))) ∧ Below w0.heap.size w0 w3) := ⟨hg1, hcell1, HB2.out.trans (hb3.mono HB2.out.size)⟩
      clear hg1 hcell1 hb3 HB2
      go_wp2_with fail
      refine (key_any b d _ HZ.out.2.2.1 HZ.out.2.2.2).mono ?_
      rintro e w4 ⟨g2, cap2, rfl, hg2, hcell2, hb4⟩
      have HK2 : Hid ((∀ i, i < (keyOf a c).length → w4.cell? ⟨g1, i, none⟩ = some (.int .u8 ((keyOf a c).getD i 0))) ∧ (∀ i, i < (keyOf b d).length → w4.cell? ⟨g2, i, none⟩ = some (.int .u8 ((keyOf b d).getD i 0))) ∧ Below w0.heap.size w0 w4) :=
        ⟨fun i hi => (hb4.cell (p := ⟨g1, i, none⟩) HK1.out.1).trans (HK1.out.2.1 i hi), hcell2, HK1.out.2.2.trans (hb4.mono HK1.out.2.2.size)⟩
      clear hg2 hcell2 hb4 HK1
      go_wp2_with fail
      refine (cmp_any g1 cap1 g2 cap2 (keyOf a c) (keyOf b d) _ (keyOf_len a c HZ.out.1 HZ.out.2.1) (keyOf_len b d HZ.out.2.2.1 HZ.out.2.2.2) HK2.out.1 HK2.out.2.1).mono ?_
      rintro e w5 ⟨he5, hb5⟩
      have HB5 : Hid (Below w0.heap.size w0 w5) := HK2.out.2.2.trans (hb5.mono HK2.out.2.2.size)
      have hck := cmp_key (nums a) (nums c) (nums b) (nums d) (nums_lo a) (nums_lo c) (nums_lo b) (nums_lo d)
      have hck' : cmpL (keyOf a c) (keyOf b d) = if nums a = nums b ∧ nums c = nums d then 0 else if beforeL (nums a) (nums c) (nums b) (nums d) = true then -1 else 1 := hck
      rw [hck'] at he5
      clear hb5 hck hck' HK2
      have n1 := nums_eq a b
      have n2 := nums_eq c d
      by_cases hs : nums a = nums b ∧ nums c = nums d
      · rw [if_pos hs] at he5
        subst he5
        have q1 : (a.toList == b.toList) = true := by rw [n1]; simp [hs.1]
        have q2 : (c.toList == d.toList) = true := by rw [n2]; simp [hs.2]
        have b1 : beforeL (nums a) (nums c) (nums b) (nums d) = false := by rw [hs.1, hs.2]; exact before_same _ _
        have b2 : beforeL (nums b) (nums d) (nums a) (nums c) = false := by rw [hs.1, hs.2]; exact before_same _ _
        clear n1 n2 hs
        rw [b1, b2]
        clear b1 b2
        go_wp2_with fail
        go_ret
        exact ⟨rfl, HB5.out⟩
      · rw [if_neg hs] at he5
        have b2 := before_turn _ _ _ _ hs
        have q : (a.toList == b.toList && c.toList == d.toList) = false := by rw [n1, n2, ← Bool.not_eq_true]; simpa using hs
        clear n1 n2 hs
        rw [b2]
        clear b2
        cases hbf : beforeL (nums a) (nums c) (nums b) (nums d)
        · rw [hbf] at he5
          have e1 : e = .returned (.int .i64 1) := he5
          subst e1
          clear hbf
          cases qa : (a.toList == b.toList)
          · go_wp2_with fail
            go_ret
            exact ⟨rfl, HB5.out⟩
          · have qc : (c.toList == d.toList) = false := by rw [qa] at q; simpa using q
            go_wp2_with fail
            go_ret
            exact ⟨rfl, HB5.out⟩
        · rw [hbf] at he5
          have e1 : e = .returned (.int .i64 (-1)) := he5
          subst e1
          clear hbf
          cases qa : (a.toList == b.toList)
          · go_wp2_with fail
            go_ret
            exact ⟨rfl, HB5.out⟩
          · have qc : (c.toList == d.toList) = false := by rw [qa] at q; simpa using q
            go_wp2_with fail
            go_ret
            exact ⟨rfl, HB5.out⟩
    · have HZ : Hid (¬ (a.size ≤ 262144 ∧ c.size ≤ 262144 ∧ b.size ≤ 262144 ∧ d.size ≤ 262144)) := hsz
      clear hsz
      go_wp2_with fail
      all_goals first
        | (go_ret; exact ⟨rfl, Below.refl _ _⟩)
        | (exfalso; exact HZ.out ⟨by omega, by omega, by omega, by omega⟩)
end Go.Proofs.Qxb6617735a
