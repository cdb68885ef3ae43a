import Derived.Test.Qxb6617735aWalkB
namespace Go.Proofs.Qxb6617735a
open Go.RowKit

/-- The text's bytes as numbers. -/
def txt (s : ByteArray) (j : Nat) : Int := if h : j < s.size then (s[j].toNat : Int) else 0
theorem txt_eq (s : ByteArray) (j : Nat) (h : j < s.size) : txt s j = (s[j].toNat : Int) := by simp [txt, h]

theorem index_txt (s : ByteArray) (j : Nat) (h : j < s.size) (w : World) : Sem.run Try.prog (Instr.index 9 (.string s) (.int .i64 (j : Int))) w = .ok (.int .u8 (txt s j)) w := by
  have h1 : (j : Int) < (s.size : Int) := by omega
  rw [txt_eq s j h]
  go_simp

theorem nums_length (s : ByteArray) : (nums s).length = s.size := by
  simp only [nums, List.length_map, ByteArray.toList_eq]
  exact Array.length_toList

theorem nums_take (s : ByteArray) (k : Nat) (h : k < s.size) : (nums s).take (k + 1) = (nums s).take k ++ [txt s k] := by
  rw [List.take_succ_eq_append_getElem (by rw [nums_length]; exact h), txt_eq s k h]
  congr 2
  simp only [nums, List.getElem_map, ByteArray.toList_eq]
  rfl

theorem esc_next (xs : List Int) (s : ByteArray) (k : Nat) (h : k < s.size) (news : List Int) (hn : news = if txt s k = 0 then [0, 255] else [txt s k]) (n : Nat) :
    n + (escBody ((nums s).take (k + 1))).length = n + (escBody ((nums s).take k)).length + news.length ∧
    (xs ++ escBody ((nums s).take (k + 1))).map (Value.int .u8) = (xs ++ escBody ((nums s).take k)).map (Value.int .u8) ++ news.map (Value.int .u8) := by
  have e : escBody ((nums s).take (k + 1)) = escBody ((nums s).take k) ++ news := by
    rw [nums_take s k h, escBody_append, hn]
    simp [escBody]
  rw [e]
  constructor
  · rw [List.length_append]; omega
  · simp

theorem esc_take_len (s : ByteArray) (k : Nat) : (escBody ((nums s).take k)).length ≤ 2 * k := by
  have h := escBody_len ((nums s).take k)
  have h2 : ((nums s).take k).length ≤ k := List.length_take_le _ _
  omega

theorem info5 : (Try.prog.info? 5).map (fun i => (i.zero, i.size, i.bytes)) = some (some (.int .u8 0), 1, 1) := by kernel_rfl

/-- What zzEscape hands back. -/
def RetEsc (base n : Nat) (xs : List Int) (s : ByteArray) (w : World) (e : Ending) (w' : World) : Prop :=
  ∃ v' : Value, e = .returned v' ∧ w'.ownsRow base 5 1 v' (n + (esc (nums s)).length) ((xs ++ esc (nums s)).map (Value.int .u8)) ∧ Below base w w'

set_option maxHeartbeats 1000000 in
theorem escape_any (base : Nat) (v : Value) (n : Nat) (xs : List Int) (s : ByteArray) (w : World) (hown : w.ownsRow base 5 1 v n (xs.map (Value.int .u8))) (hbase : base ≤ w.heap.size) (hn : n ≤ 10000000) (hs : s.size ≤ 262144) :
    Calls Try.prog 9 #[v, .string s] w (RetEsc base n xs s w) := by
  obtain ⟨i0, hi, hz0, hz1, hz2⟩ := info_parts info5
  have HO : Hid (w.ownsRow base 5 1 v n (xs.map (Value.int .u8))) := hown
  clear hown
  go_enter Try.func9, Try.ntmps9
  go_wp2
  go_loopg [0, 5] (s.size + 1) (fun gj dv iv wx => ∃ k : Nat, s.size + 1 ≤ gj + k ∧ k ≤ s.size ∧ iv = .int .i64 (k : Int) ∧ wx.ownsRow base 5 1 dv (n + (escBody ((nums s).take k)).length) ((xs ++ escBody ((nums s).take k)).map (Value.int .u8)) ∧ Below base w wx)
  case atStart =>
    go_light
    exact ⟨0, by omega, Nat.zero_le _, rfl, by simpa [escBody] using HO.out, Below.refl _ _⟩
  case round =>
    obtain ⟨k, Hk, hk, rfl, hown, hbel⟩ := hrel
    have HX : Hid (s.size + 1 ≤ gk + k ∧ wr.ownsRow base 5 1 u0 (n + (escBody ((nums s).take k)).length) ((xs ++ escBody ((nums s).take k)).map (Value.int .u8)) ∧ Below base w wr) := ⟨Hk, hown, hbel⟩
    have hlen := esc_take_len s k
    clear Hk hown hbel
    by_cases hlt : k < s.size
    · have hidx := index_txt s k hlt
      obtain ⟨c, hcE⟩ : ∃ c : Int, txt s k = c := ⟨_, rfl⟩
      rw [hcE] at hidx
      have HC : Hid (txt s k = c) := hcE
      clear hcE
      by_cases hc : c = 0
      · have HN := esc_next xs s k hlt [0, 255] (by rw [HC.out, if_pos hc]) n
        have hc0 : (c == 0) = true := by simp [hc]
        have HN2 : Hid _ := HN
        clear HN hc
        go_wp2_with (at_builtin; refine wpList_append_own _ rfl (.tmp 18) (.tmp 19) 24 rfl base 5 i0 (.int .u8 0) 1 1 Try.underlying24 hi hz0 hz1 hz2 rfl (by decide) _ _ _ rfl (HX.out.2.1.alloc _) ⟨wr.heap.size, 0, none⟩ 2 2 [.int .u8 0, .int .u8 255] rfl rfl ?c1 ?c2 ?c3 ?c4 ?c5 ?_)
        case c1 =>
          intro j u hj
          match j, hj with
          | 0, hj => simp at hj; subst hj; simp [Addr.add, go_sem]
          | 1, hj => simp at hj; subst hj; simp [Addr.add, go_sem]
        case c2 => intro u hu; simp at hu; rcases hu with rfl | rfl <;> rfl
        case c3 => go_light; unfold maxLen; omega
        case c4 => go_light; omega
        case c5 => go_light; have := HX.out.2.2.size; simp; omega
        intro v' w1 hown' hgrow _
        have HO3 : Hid (w1.ownsRow base 5 1 v' (n + (escBody ((nums s).take (k + 1))).length) ((xs ++ escBody ((nums s).take (k + 1))).map (Value.int .u8))) := by
          show w1.ownsRow base 5 1 v' (n + (escBody ((nums s).take (k + 1))).length) ((xs ++ escBody ((nums s).take (k + 1))).map (Value.int .u8))
          rw [HN2.out.1, HN2.out.2]
          simpa using hown'
        have HB3 : Hid (Below base w w1) := (HX.out.2.2.alloc (Nat.le_trans hbase HX.out.2.2.size) _).grown hgrow (by have := HX.out.2.2.size; simp; omega) (fun k hk => (HX.out.2.1.lt k hk).1)
        clear hown' hgrow
        go_wp2
        go_roundg (s.size - k)
        case measure => go_light; have := HX.out.1; omega
        case rel =>
          go_light
          exact ⟨k + 1, by omega, by omega, by go_num, HO3.out, HB3.out⟩
      · have HN := esc_next xs s k hlt [c] (by rw [HC.out, if_neg hc]) n
        have hc0 : (c == 0) = false := by simp [hc]
        have HN2 : Hid _ := HN
        clear HN hc
        go_wp2_with (at_builtin; refine wpList_append_own _ rfl (.tmp 21) (.tmp 23) 24 rfl base 5 i0 (.int .u8 0) 1 1 Try.underlying24 hi hz0 hz1 hz2 rfl (by decide) _ _ _ rfl (HX.out.2.1.alloc _) ⟨wr.heap.size, 0, none⟩ 1 1 [.int .u8 c] rfl rfl ?c1 ?c2 ?c3 ?c4 ?c5 ?_)
        case c1 =>
          intro j u hj
          match j, hj with
          | 0, hj => simp at hj; subst hj; simp [Addr.add, go_sem]
        case c2 => intro u hu; simp at hu; subst hu; rfl
        case c3 => go_light; unfold maxLen; omega
        case c4 => go_light; omega
        case c5 => go_light; have := HX.out.2.2.size; simp; omega
        intro v' w1 hown' hgrow _
        have HO3 : Hid (w1.ownsRow base 5 1 v' (n + (escBody ((nums s).take (k + 1))).length) ((xs ++ escBody ((nums s).take (k + 1))).map (Value.int .u8))) := by
          show w1.ownsRow base 5 1 v' (n + (escBody ((nums s).take (k + 1))).length) ((xs ++ escBody ((nums s).take (k + 1))).map (Value.int .u8))
          rw [HN2.out.1, HN2.out.2]
          simpa using hown'
        have HB3 : Hid (Below base w w1) := (HX.out.2.2.alloc (Nat.le_trans hbase HX.out.2.2.size) _).grown hgrow (by have := HX.out.2.2.size; simp; omega) (fun k hk => (HX.out.2.1.lt k hk).1)
        clear hown' hgrow
        go_wp2
        go_roundg (s.size - k)
        case measure => go_light; have := HX.out.1; omega
        case rel =>
          go_light
          exact ⟨k + 1, by omega, by omega, by go_num, HO3.out, HB3.out⟩
    · have HN2 : Hid (n + (esc (nums s)).length = n + (escBody ((nums s).take k)).length + 2 ∧ (xs ++ esc (nums s)).map (Value.int .u8) = (xs ++ escBody ((nums s).take k)).map (Value.int .u8) ++ [.int .u8 0, .int .u8 1]) := by
        have e : (nums s).take k = nums s := List.take_of_length_le (by rw [nums_length]; omega)
        rw [e]
        constructor
        · simp [esc]; omega
        · simp [esc]
      go_wp2_with (at_builtin; refine wpList_append_own _ rfl (.tmp 25) (.tmp 26) 24 rfl base 5 i0 (.int .u8 0) 1 1 Try.underlying24 hi hz0 hz1 hz2 rfl (by decide) _ _ _ rfl (HX.out.2.1.alloc _) ⟨wr.heap.size, 0, none⟩ 2 2 [.int .u8 0, .int .u8 1] rfl rfl ?c1 ?c2 ?c3 ?c4 ?c5 ?_)
      case c1 =>
        intro j u hj
        match j, hj with
        | 0, hj => simp at hj; subst hj; simp [Addr.add, go_sem]
        | 1, hj => simp at hj; subst hj; simp [Addr.add, go_sem]
      case c2 => intro u hu; simp at hu; rcases hu with rfl | rfl <;> rfl
      case c3 => go_light; unfold maxLen; omega
      case c4 => go_light; omega
      case c5 => go_light; have := HX.out.2.2.size; simp; omega
      intro v' w1 hown' hgrow _
      have HO3 : Hid (w1.ownsRow base 5 1 v' (n + (esc (nums s)).length) ((xs ++ esc (nums s)).map (Value.int .u8))) := by
        show w1.ownsRow base 5 1 v' (n + (esc (nums s)).length) ((xs ++ esc (nums s)).map (Value.int .u8))
        rw [HN2.out.1, HN2.out.2]
        simpa using hown'
      have HB3 : Hid (Below base w w1) := (HX.out.2.2.alloc (Nat.le_trans hbase HX.out.2.2.size) _).grown hgrow (by have := HX.out.2.2.size; simp; omega) (fun k hk => (HX.out.2.1.lt k hk).1)
      clear hown' hgrow
      go_wp2
      go_ret
      exact ⟨_, rfl, HO3.out, HB3.out⟩
end Go.Proofs.Qxb6617735a
