import Derived.Test.Qxb6617735aWalkA
namespace Go.Proofs.Qxb6617735a
open Go.RowKit

theorem cmp_drop_lt {A B : List Int} {k : Nat} (hA : k < A.length) (hB : k < B.length) (h : A.getD k 0 < B.getD k 0) : cmpL (A.drop k) (B.drop k) = -1 := by
  rw [List.drop_eq_getElem_cons hA, List.drop_eq_getElem_cons hB]
  simp only [List.getD_eq_getElem?_getD, List.getElem?_eq_getElem hA, List.getElem?_eq_getElem hB, Option.getD_some] at h
  simp [cmpL, h]
theorem cmp_drop_gt {A B : List Int} {k : Nat} (hA : k < A.length) (hB : k < B.length) (h : B.getD k 0 < A.getD k 0) : cmpL (A.drop k) (B.drop k) = 1 := by
  rw [List.drop_eq_getElem_cons hA, List.drop_eq_getElem_cons hB]
  simp only [List.getD_eq_getElem?_getD, List.getElem?_eq_getElem hA, List.getElem?_eq_getElem hB, Option.getD_some] at h
  have h' : ¬ A[k] < B[k] := by omega
  simp [cmpL, h, h']
theorem cmp_drop_eq {A B : List Int} {k : Nat} (hA : k < A.length) (hB : k < B.length) (h1 : ¬ A.getD k 0 < B.getD k 0) (h2 : ¬ B.getD k 0 < A.getD k 0) : cmpL (A.drop k) (B.drop k) = cmpL (A.drop (k + 1)) (B.drop (k + 1)) := by
  rw [List.drop_eq_getElem_cons hA, List.drop_eq_getElem_cons hB]
  simp only [List.getD_eq_getElem?_getD, List.getElem?_eq_getElem hA, List.getElem?_eq_getElem hB, Option.getD_some] at h1 h2
  simp [cmpL, h1, h2]
theorem cmp_end {A B : List Int} {k : Nat} (h : k = A.length ∨ k = B.length) (hA : k ≤ A.length) (hB : k ≤ B.length) : cmpL (A.drop k) (B.drop k) = if A.length < B.length then -1 else if B.length < A.length then 1 else 0 := by
  rcases h with h | h
  · subst h
    rw [List.drop_length]
    by_cases e : A.length < B.length
    · rw [List.drop_eq_getElem_cons e, if_pos e]; rfl
    · rw [List.drop_of_length_le (by omega), if_neg e, if_neg (by omega)]; rfl
  · subst h
    rw [List.drop_length]
    by_cases e : B.length < A.length
    · rw [List.drop_eq_getElem_cons e, if_neg (by omega), if_pos e]; rfl
    · rw [List.drop_of_length_le (by omega), if_neg (by omega), if_neg e]; rfl

theorem ret_int {k : IntKind} {a b : Int} (h : a = b) : Ending.returned (.int k a) = .returned (.int k b) := by rw [h]

set_option maxHeartbeats 1000000 in
theorem cmp_any (ga ca gb cb : Nat) (A B : List Int) (w : World) (hA : A.length ≤ 10000000) (hB : B.length ≤ 10000000)
    (hca : ∀ i, i < A.length → w.cell? ⟨ga, i, none⟩ = some (.int .u8 (A.getD i 0))) (hcb : ∀ i, i < B.length → w.cell? ⟨gb, i, none⟩ = some (.int .u8 (B.getD i 0))) :
    Calls Try.prog 6 #[.slice (some ⟨ga, 0, none⟩) A.length ca, .slice (some ⟨gb, 0, none⟩) B.length cb] w fun e w' => e = .returned (.int .i64 (cmpL A B)) ∧ Below w.heap.size w w' := by
  obtain ⟨la, hla⟩ : ∃ n, A.length = n := ⟨_, rfl⟩
  obtain ⟨lb, hlb⟩ : ∃ n, B.length = n := ⟨_, rfl⟩
  rw [hla] at hA hca ⊢
  rw [hlb] at hB hcb ⊢
  have HCA : Hid (∀ i, i < la → w.cell? ⟨ga, i, none⟩ = some (.int .u8 (A.getD i 0))) := hca
  have HCB : Hid (∀ i, i < lb → w.cell? ⟨gb, i, none⟩ = some (.int .u8 (B.getD i 0))) := hcb
  have HLA : Hid (A.length = la) := hla
  have HLB : Hid (B.length = lb) := hlb
  clear hca hcb hla hlb
  by_cases hmin : lb < la
  · have hminI : (lb : Int) < (la : Int) := by omega
    go_enter Try.func6, Try.ntmps6
    go_wp2
    go_loopg [6] (lb + 1) (fun gj iv wx => ∃ k : Nat, lb + 1 ≤ gj + k ∧ k ≤ lb ∧ iv = .int .i64 (k : Int) ∧ cmpL A B = cmpL (A.drop k) (B.drop k) ∧ ∃ q, wx = w.drewN q)
    case atStart => exact ⟨0, by omega, Nat.zero_le _, rfl, rfl, 0, rfl⟩
    case round =>
      obtain ⟨k, Hk, hk, rfl, hcmp, q, rfl⟩ := hrel
      have HX : Hid (lb + 1 ≤ gk + k ∧ cmpL A B = cmpL (A.drop k) (B.drop k)) := ⟨Hk, hcmp⟩
      clear Hk hcmp
      by_cases hlt : k < lb
      · have xa := HCA.out k (by omega)
        have xb := HCB.out k (by omega)
        obtain ⟨x, hx⟩ : ∃ x, A.getD k 0 = x := ⟨_, rfl⟩
        obtain ⟨y, hy⟩ : ∃ y, B.getD k 0 = y := ⟨_, rfl⟩
        rw [hx] at xa
        rw [hy] at xb
        have HX1 : Hid (A.getD k 0 = x) := hx
        have HY1 : Hid (B.getD k 0 = y) := hy
        clear hx hy
        have b1 : (k : Int) < (la : Int) := by omega
        have b2 : (k : Int) < (lb : Int) := by omega
        by_cases h1 : x < y
        · go_wp2
          go_quiet (fail)
          go_wp2
          go_ret
          go_light
          refine ⟨ret_int ?_, by repeat (first | exact Below.refl _ _ | refine below_drewN ?_ _)⟩
          rw [HX.out.2, cmp_drop_lt (by rw [HLA.out]; omega) (by rw [HLB.out]; omega) (by rw [HX1.out, HY1.out]; exact h1)]
        · by_cases h2 : y < x
          · go_wp2
            go_quiet (fail)
            go_wp2
            go_quiet (fail)
            go_wp2
            go_ret
            go_light
            refine ⟨ret_int ?_, by repeat (first | exact Below.refl _ _ | refine below_drewN ?_ _)⟩
            rw [HX.out.2, cmp_drop_gt (by rw [HLA.out]; omega) (by rw [HLB.out]; omega) (by rw [HX1.out, HY1.out]; exact h2)]
          · have H12 : Hid (¬ x < y ∧ ¬ y < x) := ⟨h1, h2⟩
            go_wp2
            go_quiet (fail)
            go_wp2
            go_quiet (fail)
            go_wp2
            go_roundg (lb - k)
            case measure => go_light; have := HX.out.1; omega
            case rel =>
              go_light
              refine ⟨k + 1, by omega, by omega, by go_num, ?_, _, rfl⟩
              rw [HX.out.2]
              exact cmp_drop_eq (by rw [HLA.out]; omega) (by rw [HLB.out]; omega) (by rw [HX1.out, HY1.out]; have := H12.out.1; omega) (by rw [HX1.out, HY1.out]; have := H12.out.2; omega)
      · have HE : Hid (cmpL (A.drop k) (B.drop k) = if la < lb then -1 else if lb < la then 1 else 0) := by
          have h := cmp_end (A := A) (B := B) (k := k) (by rw [HLA.out, HLB.out]; omega) (by rw [HLA.out]; omega) (by rw [HLB.out]; omega)
          rw [HLA.out, HLB.out] at h
          exact h
        go_wp2
        all_goals
          go_ret
          go_light
          refine ⟨ret_int ?_, by repeat (first | exact Below.refl _ _ | refine below_drewN ?_ _)⟩
          rw [HX.out.2, HE.out]
          first | rw [if_pos (by omega)] | rw [if_neg (by omega), if_pos (by omega)] | rw [if_neg (by omega), if_neg (by omega)]
  · have hminI : ¬ (lb : Int) < (la : Int) := by omega
    go_enter Try.func6, Try.ntmps6
    go_wp2
    go_loopg [6] (la + 1) (fun gj iv wx => ∃ k : Nat, la + 1 ≤ gj + k ∧ k ≤ la ∧ iv = .int .i64 (k : Int) ∧ cmpL A B = cmpL (A.drop k) (B.drop k) ∧ ∃ q, wx = w.drewN q)
    case atStart => exact ⟨0, by omega, Nat.zero_le _, rfl, rfl, 0, rfl⟩
    case round =>
      obtain ⟨k, Hk, hk, rfl, hcmp, q, rfl⟩ := hrel
      have HX : Hid (la + 1 ≤ gk + k ∧ cmpL A B = cmpL (A.drop k) (B.drop k)) := ⟨Hk, hcmp⟩
      clear Hk hcmp
      by_cases hlt : k < la
      · have xa := HCA.out k (by omega)
        have xb := HCB.out k (by omega)
        obtain ⟨x, hx⟩ : ∃ x, A.getD k 0 = x := ⟨_, rfl⟩
        obtain ⟨y, hy⟩ : ∃ y, B.getD k 0 = y := ⟨_, rfl⟩
        rw [hx] at xa
        rw [hy] at xb
        have HX1 : Hid (A.getD k 0 = x) := hx
        have HY1 : Hid (B.getD k 0 = y) := hy
        clear hx hy
        have b1 : (k : Int) < (la : Int) := by omega
        have b2 : (k : Int) < (lb : Int) := by omega
        by_cases h1 : x < y
        · go_wp2
          go_quiet (fail)
          go_wp2
          go_ret
          go_light
          refine ⟨ret_int ?_, by repeat (first | exact Below.refl _ _ | refine below_drewN ?_ _)⟩
          rw [HX.out.2, cmp_drop_lt (by rw [HLA.out]; omega) (by rw [HLB.out]; omega) (by rw [HX1.out, HY1.out]; exact h1)]
        · by_cases h2 : y < x
          · go_wp2
            go_quiet (fail)
            go_wp2
            go_quiet (fail)
            go_wp2
            go_ret
            go_light
            refine ⟨ret_int ?_, by repeat (first | exact Below.refl _ _ | refine below_drewN ?_ _)⟩
            rw [HX.out.2, cmp_drop_gt (by rw [HLA.out]; omega) (by rw [HLB.out]; omega) (by rw [HX1.out, HY1.out]; exact h2)]
          · have H12 : Hid (¬ x < y ∧ ¬ y < x) := ⟨h1, h2⟩
            go_wp2
            go_quiet (fail)
            go_wp2
            go_quiet (fail)
            go_wp2
            go_roundg (la - k)
            case measure => go_light; have := HX.out.1; omega
            case rel =>
              go_light
              refine ⟨k + 1, by omega, by omega, by go_num, ?_, _, rfl⟩
              rw [HX.out.2]
              exact cmp_drop_eq (by rw [HLA.out]; omega) (by rw [HLB.out]; omega) (by rw [HX1.out, HY1.out]; have := H12.out.1; omega) (by rw [HX1.out, HY1.out]; have := H12.out.2; omega)
      · have HE : Hid (cmpL (A.drop k) (B.drop k) = if la < lb then -1 else if lb < la then 1 else 0) := by
          have h := cmp_end (A := A) (B := B) (k := k) (by rw [HLA.out, HLB.out]; omega) (by rw [HLA.out]; omega) (by rw [HLB.out]; omega)
          rw [HLA.out, HLB.out] at h
          exact h
        go_wp2
        all_goals
          go_ret
          go_light
          refine ⟨ret_int ?_, by repeat (first | exact Below.refl _ _ | refine below_drewN ?_ _)⟩
          rw [HX.out.2, HE.out]
          first | rw [if_pos (by omega)] | rw [if_neg (by omega), if_pos (by omega)] | rw [if_neg (by omega), if_neg (by omega)]
end Go.Proofs.Qxb6617735a
