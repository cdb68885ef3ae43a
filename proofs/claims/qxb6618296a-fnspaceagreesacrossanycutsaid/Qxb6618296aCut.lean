import Derived.Test.Qxb6618296aCopy
namespace Go.Proofs.Qxb6618296a
open Go.RowKit Go.Deep

theorem end_hi {Z : Nat → Int} {n : Nat} {a r : Int} (h : IsEnd Z n a r) (hn : (n : Int) ≤ 1048576) (ha : a ≤ 9223372036854775807) : r ≤ 9223372036854775807 := by
  by_cases e : (n : Int) ≤ a
  · rw [h.1 e]; exact ha
  · have := (h.2 (by omega)).2.1; omega

set_option maxRecDepth 100000 in
set_option maxHeartbeats 1000000 in
theorem cut_some (x : Addr) (len0 cap0 : Nat) (Z : Nat → Int) (a1 a2 : Int) (a3 : Bool) (k : Nat) (w W2 : World) (hl : (len0 : Int) ≤ 1048576) (hp : 0 ≤ a1) (u1 : a1 ≤ 9223372036854775807) (h1 : (k : Int) ≤ (len0 : Int))
    (hrun : ∀ ty, (Builtin.copy_ #[22, 22] ty #[.slice (some ⟨w.heap.size, 0, none⟩) len0 len0, .slice (some x) len0 cap0]).run Try.prog (w.alloc (.cells (madeCells #[.int .u8 0] len0) 5)) = .ok (goInt len0) W2)
    (htx : TextAt W2 W2.heap.size (some ⟨w.heap.size, 0, none⟩) len0 Z) (hb2 : Below w.heap.size w W2) :
    Calls Try.prog 4 #[.slice (some x) len0 cap0, .int .i64 a1, .int .i64 a2, .bool a3, .int .i64 k] w fun e w' => e = .returned (.bool true) ∧ Below w.heap.size w w' := by
  have HT : Hid (TextAt W2 W2.heap.size (some ⟨w.heap.size, 0, none⟩) len0 Z) := htx
  have HB2 : Hid (Below w.heap.size w W2) := hb2
  clear htx hb2
  have hnil := fun w => run_neq_slice_nil_any (P := Try.prog) w 22 5 (some x) len0 cap0 0 0 Try.underlying22
  have hmk := fun w => run_make_row' (P := Try.prog) 22 5 (.int .u8 0) 1 Try.underlying22 info5 rfl .i64 .i64 len0 (by omega) (by omega) w
  go_enter Try.func4, Try.ntmps4
  go_wp2_with fail
  refine (bytes9_any _ _ _ _ _ _ _ _).mono ?_
  rintro e wx ⟨r0, rfl, rfl⟩
  cases r0
  · go_wp2_with fail
    go_ret
    exact ⟨rfl, Below.refl _ _⟩
  · go_wp2_with fail
    refine (zzspace_any (some ⟨wx.heap.size, 0, none⟩) len0 len0 Z a1 a2 a3 _ hl hp HT.out).mono ?_
    rintro e w3 ⟨r, rfl, hend, hb3⟩
    have HE : Hid (IsEnd Z len0 a1 r) := hend
    have hr0 : 0 ≤ r := by have := end_ge hend; omega
    have hr1 : r ≤ 9223372036854775807 := end_hi hend hl u1
    have HT3 : Hid (TextAt w3 W2.heap.size (some ⟨wx.heap.size, 0, none⟩) len0 Z) := HT.out.later hb3
    have HB3 : Hid (Below wx.heap.size wx w3) := HB2.out.trans (hb3.mono HB2.out.size)
    have HS3 : Hid (W2.heap.size ≤ w3.heap.size) := hb3.size
    clear hend hb3
    have q1 : (a2 != a2) = false := by simp
    have q2 : (a3 != a3) = false := by simp
    have q3 : (a2 == a2) = true := by simp
    have q4 : (a3 == a3) = true := by simp
    go_wp2_with fail
    refine (isend_any (some ⟨wx.heap.size, 0, none⟩) len0 len0 Z W2.heap.size a1 r _ hl hp HT3.out HE.out).mono ?_
    rintro e w4 ⟨rfl, rfl⟩
    go_wp2_with fail
    refine (zzspace_any (some ⟨wx.heap.size, 0, none⟩) k len0 Z a1 a2 a3 _ (by omega) hp (fun i hi => HT3.out.mono HS3.out i (by omega))).mono ?_
    rintro e w5 ⟨r1, rfl, hend1, hb5⟩
    have HE1 : Hid (IsEnd Z k a1 r1) := hend1
    have HT5 : Hid (TextAt w5 w5.heap.size (some ⟨wx.heap.size, 0, none⟩) len0 Z) := ((HT3.out.mono HS3.out).later hb5).mono hb5.size
    have HB5 : Hid (Below wx.heap.size wx w5) := HB3.out.trans (hb5.mono HB3.out.size)
    clear hend1 hb5 HS3 HT3 HB3
    by_cases hac : (k : Int) ≤ a1
    · have hr1a : r1 = a1 := HE1.out.1 hac
      subst hr1a
      have q5 : (r1 != r1) = false := by simp
      by_cases hkn : k = len0
      · subst hkn
        go_wp2_with fail
        refine (zzspace_any (some ⟨wx.heap.size, 0, none⟩) 0 0 (fun i => Z (k + i)) (r1 - k) a2 a3 _ (by omega) (by omega) (fun i hi => by omega)).mono ?_
        rintro e w6 ⟨r3, rfl, hend3, hb6⟩
        have hend3' : IsEnd (fun i => Z (k + i)) (k - k) (r1 - k) r3 := by rw [Nat.sub_self]; exact hend3
        have h3 := end_rest (Nat.le_refl _) hac HE.out hend3'
        have q6 : (r3 + (k : Int) == r) = true := by simp [h3]
        have q7 : 0 ≤ r3 := by have := end_ge hend3; omega
        have q8 : r3 + (k : Int) ≤ 9223372036854775807 := by omega
        have HB6 : Hid (Below wx.heap.size wx w6) := HB5.out.trans (hb6.mono HB5.out.size)
        clear h3 hend3 hend3' hb6
        go_wp2_with fail
        go_ret
        exact ⟨rfl, HB6.out⟩
      · have hkn1 : k < len0 := by omega
        have hkn2 : ¬ (len0 - k = 0) := by omega
        go_wp2_with fail
        refine (zzspace_any (some ⟨wx.heap.size, k, none⟩) (len0 - k) (len0 - k) (fun i => Z (k + i)) (r1 - k) a2 a3 _ (by omega) (by omega) (fun i hi => ?_)).mono ?_
        · obtain ⟨b, o, e1, hlt, hc⟩ := HT5.out (k + i) (by omega)
          cases e1
          rw [Nat.zero_add] at hc
          exact ⟨_, _, rfl, hlt, hc⟩
        rintro e w6 ⟨r3, rfl, hend3, hb6⟩
        have h3 := end_rest (by omega) hac HE.out hend3
        have q6 : (r3 + (k : Int) == r) = true := by simp [h3]
        have q7 : 0 ≤ r3 := by have := end_ge hend3; omega
        have q8 : r3 + (k : Int) ≤ 9223372036854775807 := by omega
        have HB6 : Hid (Below wx.heap.size wx w6) := HB5.out.trans (hb6.mono HB5.out.size)
        clear h3 hend3 hb6
        go_wp2_with fail
        go_ret
        exact ⟨rfl, HB6.out⟩
    · by_cases hrk : r < (k : Int)
      · have hr1r : r1 = r := end_ahead hp (by omega) (by omega) HE.out hrk HE1.out
        subst hr1r
        have q5 : (r1 == r1) = true := by simp
        go_wp2_with fail
        go_ret
        exact ⟨rfl, HB5.out⟩
      · have hr1k : r1 = (k : Int) := end_into hp (by omega) (by omega) HE.out hrk HE1.out
        subst hr1k
        have q5 : ((k : Int) != (k : Int)) = false := by simp
        go_wp2_with fail
        refine (zzspace_any (some ⟨wx.heap.size, 0, none⟩) len0 len0 Z (k : Int) a2 a3 _ hl (by omega) HT5.out).mono ?_
        rintro e w6 ⟨r2, rfl, hend2, hb6⟩
        have hr2 : r2 = r := end_on (by omega) (by omega) HE.out (by omega) hend2
        have HB6 : Hid (Below wx.heap.size wx w6) := HB5.out.trans (hb6.mono HB5.out.size)
        clear hend2 hb6 HE HE1
        subst hr2
        have q6 : (r2 == r2) = true := by simp
        go_wp2_with fail
        go_ret
        exact ⟨rfl, HB6.out⟩

theorem text_nil (w : World) (Bd : Nat) (Z : Nat → Int) : TextAt w Bd none 0 Z := fun i hi => by omega

set_option maxRecDepth 100000 in
set_option maxHeartbeats 1000000 in
theorem cut_nil (a1 a2 : Int) (a3 : Bool) (w : World) (hp : 0 ≤ a1) (u1 : a1 ≤ 9223372036854775807) :
    Calls Try.prog 4 #[.slice none 0 0, .int .i64 a1, .int .i64 a2, .bool a3, .int .i64 0] w fun e w' => e = .returned (.bool true) ∧ Below w.heap.size w w' := by
  have hnil := fun w => run_neq_slice_nil_any (P := Try.prog) w 22 5 none 0 0 0 0 Try.underlying22
  have q1 : (a2 != a2) = false := by simp
  have q2 : (a3 != a3) = false := by simp
  have q3 : (a2 == a2) = true := by simp
  have q4 : (a3 == a3) = true := by simp
  have q5 : (a1 != a1) = false := by simp
  have q6 : (a1 == a1) = true := by simp
  go_enter Try.func4, Try.ntmps4
  go_wp2_with fail
  refine (bytes9_any _ _ _ _ _ _ _ _).mono ?_
  rintro e wx ⟨r0, rfl, rfl⟩
  cases r0
  · go_wp2_with fail
    go_ret
    exact ⟨rfl, Below.refl _ _⟩
  · go_wp2_with fail
    refine (zzspace_any none 0 0 (fun _ => 0) a1 a2 a3 _ (by omega) hp (text_nil _ _ _)).mono ?_
    rintro e w3 ⟨r, rfl, hend, hb3⟩
    obtain rfl : r = a1 := hend.1 hp
    have HE : Hid (IsEnd (fun _ => 0) 0 r r) := hend
    have HB3 : Hid (Below wx.heap.size wx w3) := hb3
    clear hend hb3
    go_wp2_with fail
    refine (isend_any none 0 0 (fun _ => 0) 0 r r _ (by omega) hp (text_nil _ _ _) HE.out).mono ?_
    rintro e w4 ⟨rfl, rfl⟩
    go_wp2_with fail
    refine (zzspace_any none 0 0 (fun _ => 0) r a2 a3 _ (by omega) hp (text_nil _ _ _)).mono ?_
    rintro e w5 ⟨r1, rfl, hend1, hb5⟩
    obtain rfl : r1 = r := hend1.1 hp
    have HB5 : Hid (Below wx.heap.size wx w5) := HB3.out.trans (hb5.mono HB3.out.size)
    clear hend1 hb5 HB3
    go_wp2_with fail
    refine (zzspace_any none 0 0 (fun _ => 0) r1 a2 a3 _ (by omega) hp (text_nil _ _ _)).mono ?_
    rintro e w6 ⟨r3, rfl, hend3, hb6⟩
    obtain rfl : r3 = r1 := hend3.1 hp
    have HB6 : Hid (Below wx.heap.size wx w6) := HB5.out.trans (hb6.mono HB5.out.size)
    clear hend3 hb6 HB5
    go_wp2_with fail
    go_ret
    exact ⟨rfl, HB6.out⟩

set_option maxRecDepth 100000 in
set_option maxHeartbeats 1000000 in
theorem cut_out (a : Option Addr) (n c : Nat) (a1 a2 : Int) (a3 : Bool) (a4 : Int) (w : World) (hin : ¬ ((n : Int) ≤ 1048576 ∧ 0 ≤ a1 ∧ 0 ≤ a4 ∧ a4 ≤ (n : Int))) :
    Calls Try.prog 4 #[.slice a n c, .int .i64 a1, .int .i64 a2, .bool a3, .int .i64 a4] w fun e w' => e = .returned (.bool true) ∧ Below w.heap.size w w' := by
  have HIN : Hid (¬ ((n : Int) ≤ 1048576 ∧ 0 ≤ a1 ∧ 0 ≤ a4 ∧ a4 ≤ (n : Int))) := hin
  by_cases h1 : (n : Int) ≤ 1048576
  · by_cases h2 : 0 ≤ a1
    · by_cases h3 : 0 ≤ a4
      · have h4 : ¬ a4 ≤ (n : Int) := fun h => HIN.out ⟨h1, h2, h3, h⟩
        clear hin HIN
        go_enter Try.func4, Try.ntmps4
        go_wp2_with fail
        refine (bytes9_any _ _ _ _ _ _ _ _).mono ?_
        rintro e wx ⟨r0, rfl, rfl⟩
        cases r0 <;> (go_wp2_with fail; go_ret; exact ⟨rfl, Below.refl _ _⟩)
      · clear hin HIN
        go_enter Try.func4, Try.ntmps4
        go_wp2_with fail
        refine (bytes9_any _ _ _ _ _ _ _ _).mono ?_
        rintro e wx ⟨r0, rfl, rfl⟩
        cases r0 <;> (go_wp2_with fail; go_ret; exact ⟨rfl, Below.refl _ _⟩)
    · clear hin HIN
      go_enter Try.func4, Try.ntmps4
      go_wp2_with fail
      refine (bytes9_any _ _ _ _ _ _ _ _).mono ?_
      rintro e wx ⟨r0, rfl, rfl⟩
      cases r0 <;> (go_wp2_with fail; go_ret; exact ⟨rfl, Below.refl _ _⟩)
  · clear hin HIN
    go_enter Try.func4, Try.ntmps4
    go_wp2_with fail
    refine (bytes9_any _ _ _ _ _ _ _ _).mono ?_
    rintro e wx ⟨r0, rfl, rfl⟩
    cases r0 <;> (go_wp2_with fail; go_ret; exact ⟨rfl, Below.refl _ _⟩)
end Go.Proofs.Qxb6618296a
