import Derived.Test.Qxb6618296aCopy
namespace Go.Proofs.Qxb6618296a
open Go.RowKit Go.Deep

set_option maxRecDepth 100000 in
set_option maxHeartbeats 1000000 in
theorem skip_some (x : Addr) (len0 cap0 : Nat) (Z : Nat → Int) (a1 a2 : Int) (a3 : Bool) (w W2 : World) (hl : (len0 : Int) ≤ 1048576) (hp : 0 ≤ a1)
    (hrun : ∀ ty, (Builtin.copy_ #[22, 22] ty #[.slice (some ⟨w.heap.size, 0, none⟩) len0 len0, .slice (some x) len0 cap0]).run Try.prog (w.alloc (.cells (madeCells #[.int .u8 0] len0) 5)) = .ok (goInt len0) W2)
    (htx : TextAt W2 W2.heap.size (some ⟨w.heap.size, 0, none⟩) len0 Z) (hb2 : Below w.heap.size w W2) :
    Calls Try.prog 3 #[.slice (some x) len0 cap0, .int .i64 a1, .int .i64 a2, .bool a3] w fun e w' => e = .returned (.bool true) ∧ Below w.heap.size w w' := by
  have HT : Hid (TextAt W2 W2.heap.size (some ⟨w.heap.size, 0, none⟩) len0 Z) := htx
  have HB2 : Hid (Below w.heap.size w W2) := hb2
  clear htx hb2
  have hnil := fun w => run_neq_slice_nil_any (P := Try.prog) w 22 5 (some x) len0 cap0 0 0 Try.underlying22
  have hmk := fun w => run_make_row' (P := Try.prog) 22 5 (.int .u8 0) 1 Try.underlying22 info5 rfl .i64 .i64 len0 (by omega) (by omega) w
  have q1 : (a2 != a2) = false := by simp
  have q2 : (a3 != a3) = false := by simp
  have q3 : (a2 == a2) = true := by simp
  have q4 : (a3 == a3) = true := by simp
  go_enter Try.func3, Try.ntmps3
  go_wp2_with fail
  refine (bytes5_any _ _ _ _ _ _ _).mono ?_
  rintro e wx ⟨r0, rfl, rfl⟩
  cases r0
  · go_wp2_with fail
    go_ret
    exact ⟨rfl, Below.refl _ _⟩
  · go_wp2_with fail
    refine (zzspace_any (some ⟨wx.heap.size, 0, none⟩) len0 len0 Z a1 a2 a3 _ hl hp HT.out).mono ?_
    rintro e w3 ⟨r, rfl, hend, hb3⟩
    have HE : Hid (IsEnd Z len0 a1 r) := hend
    have hr0 : 0 ≤ r := by have := end_ge hend; omega
    have HT3 : Hid (TextAt w3 w3.heap.size (some ⟨wx.heap.size, 0, none⟩) len0 Z) := (HT.out.later hb3).mono hb3.size
    have HB3 : Hid (Below wx.heap.size wx w3) := HB2.out.trans (hb3.mono HB2.out.size)
    clear hend hb3 hrun hmk hnil
    go_wp2_with fail
    refine (same_any (some ⟨wx.heap.size, 0, none⟩) len0 len0 len0 Z w3.heap.size _ hl HT3.out).mono ?_
    rintro e w4 ⟨rfl, hb4⟩
    have HT4 : Hid (TextAt w4 w4.heap.size (some ⟨wx.heap.size, 0, none⟩) len0 Z) := (HT3.out.later hb4).mono hb4.size
    have HB4 : Hid (Below wx.heap.size wx w4) := HB3.out.trans (hb4.mono HB3.out.size)
    clear hb4 HB3 HT3
    go_wp2_with fail
    refine (isend_any (some ⟨wx.heap.size, 0, none⟩) len0 len0 Z w4.heap.size a1 r _ hl hp HT4.out HE.out).mono ?_
    rintro e w5 ⟨rfl, rfl⟩
    go_wp2_with fail
    refine (zzspace_any (some ⟨wx.heap.size, 0, none⟩) len0 len0 Z r a2 a3 _ hl hr0 HT4.out).mono ?_
    rintro e w6 ⟨r2, rfl, hend2, hb6⟩
    have hr2 : r2 = r := end_again hp HE.out hend2
    have HT6 : Hid (TextAt w6 w6.heap.size (some ⟨wx.heap.size, 0, none⟩) len0 Z) := (HT4.out.later hb6).mono hb6.size
    have HB6 : Hid (Below wx.heap.size wx w6) := HB4.out.trans (hb6.mono HB4.out.size)
    clear hend2 hb6 HE
    subst hr2
    have q6 : (r2 == r2) = true := by simp
    go_wp2_with fail
    refine (same_any (some ⟨wx.heap.size, 0, none⟩) len0 len0 len0 Z w6.heap.size _ hl HT6.out).mono ?_
    rintro e w7 ⟨rfl, hb7⟩
    have HB7 : Hid (Below wx.heap.size wx w7) := HB6.out.trans (hb7.mono HB6.out.size)
    clear hb7
    go_wp2_with fail
    go_ret
    exact ⟨rfl, HB7.out⟩

theorem text_nil (w : World) (Bd : Nat) (Z : Nat → Int) : TextAt w Bd none 0 Z := fun i hi => by omega

set_option maxRecDepth 100000 in
set_option maxHeartbeats 1000000 in
theorem skip_nil (a1 a2 : Int) (a3 : Bool) (w : World) (hp : 0 ≤ a1) :
    Calls Try.prog 3 #[.slice none 0 0, .int .i64 a1, .int .i64 a2, .bool a3] w fun e w' => e = .returned (.bool true) ∧ Below w.heap.size w w' := by
  have hnil := fun w => run_neq_slice_nil_any (P := Try.prog) w 22 5 none 0 0 0 0 Try.underlying22
  have q1 : (a2 != a2) = false := by simp
  have q2 : (a3 != a3) = false := by simp
  have q3 : (a2 == a2) = true := by simp
  have q4 : (a3 == a3) = true := by simp
  have q6 : (a1 == a1) = true := by simp
  go_enter Try.func3, Try.ntmps3
  go_wp2_with fail
  refine (bytes5_any _ _ _ _ _ _ _).mono ?_
  rintro e wx ⟨r0, rfl, rfl⟩
  cases r0
  · go_wp2_with fail
    go_ret
    exact ⟨rfl, Below.refl _ _⟩
  · go_wp2_with fail
    refine (zzspace_any none 0 0 (fun _ => 0) a1 a2 a3 _ (by omega) hp (text_nil _ _ _)).mono ?_
    rintro e w3 ⟨r, rfl, hend, hb3⟩
    obtain rfl : r = a1 := hend.1 hp
    have HE : Hid (IsEnd (fun _ => 0) 0 r r) := hend
    have HB3 : Hid (Below wx.heap.size wx w3) := hb3
    clear hend hb3
    go_wp2_with fail
    refine (same_any none 0 0 0 (fun _ => 0) 0 _ (by omega) (text_nil _ _ _)).mono ?_
    rintro e w4 ⟨rfl, hb4⟩
    have HB4 : Hid (Below wx.heap.size wx w4) := HB3.out.trans (hb4.mono HB3.out.size)
    clear hb4 HB3
    go_wp2_with fail
    refine (isend_any none 0 0 (fun _ => 0) 0 r r _ (by omega) hp (text_nil _ _ _) HE.out).mono ?_
    rintro e w5 ⟨rfl, rfl⟩
    go_wp2_with fail
    refine (zzspace_any none 0 0 (fun _ => 0) r a2 a3 _ (by omega) hp (text_nil _ _ _)).mono ?_
    rintro e w6 ⟨r2, rfl, hend2, hb6⟩
    obtain rfl : r2 = r := hend2.1 hp
    have HB6 : Hid (Below wx.heap.size wx w6) := HB4.out.trans (hb6.mono HB4.out.size)
    clear hend2 hb6 HB4
    go_wp2_with fail
    refine (same_any none 0 0 0 (fun _ => 0) 0 _ (by omega) (text_nil _ _ _)).mono ?_
    rintro e w7 ⟨rfl, hb7⟩
    have HB7 : Hid (Below wx.heap.size wx w7) := HB6.out.trans (hb7.mono HB6.out.size)
    clear hb7 HB6
    go_wp2_with fail
    go_ret
    exact ⟨rfl, HB7.out⟩

set_option maxRecDepth 100000 in
set_option maxHeartbeats 1000000 in
theorem skip_out (a : Option Addr) (n c : Nat) (a1 a2 : Int) (a3 : Bool) (w : World) (hin : ¬ ((n : Int) ≤ 1048576 ∧ 0 ≤ a1)) :
    Calls Try.prog 3 #[.slice a n c, .int .i64 a1, .int .i64 a2, .bool a3] w fun e w' => e = .returned (.bool true) ∧ Below w.heap.size w w' := by
  by_cases h1 : (n : Int) ≤ 1048576
  · have h2 : ¬ 0 ≤ a1 := fun h => hin ⟨h1, h⟩
    clear hin
    go_enter Try.func3, Try.ntmps3
    go_wp2_with fail
    refine (bytes5_any _ _ _ _ _ _ _).mono ?_
    rintro e wx ⟨r0, rfl, rfl⟩
    cases r0 <;> (go_wp2_with fail; go_ret; exact ⟨rfl, Below.refl _ _⟩)
  · clear hin
    go_enter Try.func3, Try.ntmps3
    go_wp2_with fail
    refine (bytes5_any _ _ _ _ _ _ _).mono ?_
    rintro e wx ⟨r0, rfl, rfl⟩
    cases r0 <;> (go_wp2_with fail; go_ret; exact ⟨rfl, Below.refl _ _⟩)
end Go.Proofs.Qxb6618296a
