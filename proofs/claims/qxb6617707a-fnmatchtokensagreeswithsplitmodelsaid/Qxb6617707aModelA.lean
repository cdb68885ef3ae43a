import Derived.Test.Qxb6617707aRowsAt
import Derived.Test.Qxb6617707aPlainM
import Derived.Deep.Light
import Derived.Deep.CutBlock
import Derived.BigRegion
import Derived.Deep.RegionHeld3
namespace Go.Proofs.Qxb6617707a
open Go.RowKit Go.Deep

/-- The memo: block mb holds N small numbers; 1 says yes, 2 says no, 0 nothing. -/
def Memo (w : World) (mb n m : Nat) (M : Nat → Nat → Prop) : Prop :=
  ∃ F : Nat → Int, w.rowIs mb 33 ((n + 1) * (m + 1)) (fun i => .int .i8 (F i)) ∧ ∀ i j, i ≤ n → j ≤ m → (F (i * (m + 1) + j) = 0 ∨ (F (i * (m + 1) + j) = 1 ∧ M (n - i) j) ∨ (F (i * (m + 1) + j) = 2 ∧ ¬ M (n - i) j))

theorem at_lt {n m i j : Nat} (hi : i ≤ n) (hj : j ≤ m) : i * (m + 1) + j < (n + 1) * (m + 1) := by
  have h : (i + 1) * (m + 1) ≤ (n + 1) * (m + 1) := Nat.mul_le_mul_right _ (by omega)
  rw [Nat.succ_mul] at h
  omega

theorem at_inj {m i j i' j' : Nat} (hj : j ≤ m) (hj' : j' ≤ m) (h : i * (m + 1) + j = i' * (m + 1) + j') : i = i' ∧ j = j' := by
  have h1 : (i * (m + 1) + j) / (m + 1) = i := by
    rw [Nat.mul_comm, Nat.mul_add_div (by omega), Nat.div_eq_of_lt (by omega)]; omega
  have h2 : (i' * (m + 1) + j') / (m + 1) = i' := by
    rw [Nat.mul_comm, Nat.mul_add_div (by omega), Nat.div_eq_of_lt (by omega)]; omega
  have e : i = i' := by rw [← h1, ← h2, h]
  subst e
  exact ⟨rfl, by omega⟩

theorem Memo.store {w : World} {mb n m : Nat} {M : Nat → Nat → Prop} (h : Memo w mb n m M) {i j : Nat} (hi : i ≤ n) (hj : j ≤ m) (v : Int) (hv : (v = 1 ∧ M (n - i) j) ∨ (v = 2 ∧ ¬ M (n - i) j)) :
    Memo (w.setCell ⟨mb, i * (m + 1) + j, none⟩ (.int .i8 v)) mb n m M := by
  obtain ⟨F, hF, hM⟩ := h
  refine ⟨fun x => if x = i * (m + 1) + j then v else F x, (hF.set _ _).congr (fun x _ => by by_cases e : x = i * (m + 1) + j <;> simp [e]), fun i' j' hi' hj' => ?_⟩
  by_cases e : i' * (m + 1) + j' = i * (m + 1) + j
  · obtain ⟨rfl, rfl⟩ := at_inj hj' hj e
    simp only [if_pos]
    exact Or.inr hv
  · simp only [if_neg e]
    exact hM i' j' hi' hj'

theorem Memo.drew {w : World} {mb n m : Nat} {M : Nat → Nat → Prop} (h : Memo w mb n m M) : Memo w.drew mb n m M := h

theorem Memo.yes {w : World} {mb n m : Nat} {M : Nat → Nat → Prop} (h : Memo w mb n m M) {i j p : Nat} (hi : i ≤ n) (hj : j ≤ m) (hp : p = i * (m + 1)) (hM : M (n - i) j) : Memo (w.setCell ⟨mb, p + j, none⟩ (.int .i8 1)) mb n m M := by
  rw [hp]; exact h.store hi hj 1 (Or.inl ⟨rfl, hM⟩)
theorem Memo.no {w : World} {mb n m : Nat} {M : Nat → Nat → Prop} (h : Memo w mb n m M) {i j p : Nat} (hi : i ≤ n) (hj : j ≤ m) (hp : p = i * (m + 1)) (hM : ¬ M (n - i) j) : Memo (w.setCell ⟨mb, p + j, none⟩ (.int .i8 2)) mb n m M := by
  rw [hp]; exact h.store hi hj 2 (Or.inr ⟨rfl, hM⟩)
theorem Memo.cellAt {w : World} {mb n m : Nat} {M : Nat → Nat → Prop} (h : Memo w mb n m M) {i j p : Nat} (hi : i ≤ n) (hj : j ≤ m) (hp : p = i * (m + 1)) : (∃ v, w.cell? ⟨mb, p + j, none⟩ = some (.int .i8 v)) ∧ w.frozen? ⟨mb, p + j, none⟩ = false := by
  obtain ⟨F, hF, _⟩ := h
  rw [hp]
  exact ⟨⟨_, hF.cell (at_lt hi hj)⟩, hF.frozen _⟩

/-- What a call of the model answers. -/
def RetMod (Bd mb n m : Nat) (M : Nat → Nat → Prop) (r j : Nat) (w : World) (e : Ending) (w' : World) : Prop :=
  ∃ b : Bool, e = .returned (.bool b) ∧ (b = true ↔ M r j) ∧ Memo w' mb n m M ∧ Below Bd w w'

/-- The bounds and the kinds. -/
structure Ctx (Bd mb n N : Nat) (s : ByteArray) (K : Nat → Int) : Prop where
  hs : s.size ≤ 512
  hn : n ≤ 512
  hN : N = (n + 1) * (s.size + 1)
  hmb : Bd ≤ mb
  hK : ∀ i, i < n → 0 ≤ K i ∧ K i ≤ 5

/-- The model's contract with r tokens to go. -/
def ModelAt (Bd mb n N kc bc sc : Nat) (ka ba sa : Option Addr) (s : ByteArray) (K B : Nat → Int) (S : Nat → Nat → Bool) (r : Nat) : Prop :=
  ∀ (i j : Nat) (zi zj : Int) (w : World), zi = i → zj = j → n - i = r → i ≤ n → j ≤ s.size → Args w Bd n ka ba sa K B S → Memo w mb n s.size (ModP n s.size K B S (txt s)) →
    Calls Try.prog 7 #[.slice ka n kc, .slice ba n bc, .slice sa n sc, .string s, .int .i64 zi, .int .i64 zj, .slice (some ⟨mb, 0, none⟩) N N] w (RetMod Bd mb n s.size (ModP n s.size K B S (txt s)) r j w)

theorem start {Bd mb n N : Nat} {s : ByteArray} {K : Nat → Int} (hc : Ctx Bd mb n N s K) {M : Nat → Nat → Prop} {w : World} (hm : Memo w mb n s.size M) {i j : Nat} (hi : i ≤ n) (hj : j ≤ s.size) :
    ∃ (p : Nat) (v : Int), p = i * (s.size + 1) ∧ (i : Int) * ((s.size : Int) + 1) = (p : Int) ∧ (p : Int) + j < (N : Int) ∧ (N : Int) ≤ 263169 ∧ w.cell? ⟨mb, p + j, none⟩ = some (.int .i8 v) ∧ w.frozen? ⟨mb, p + j, none⟩ = false ∧
      (v = 0 ∨ (v = 1 ∧ M (n - i) j) ∨ (v = 2 ∧ ¬ M (n - i) j)) := by
  obtain ⟨F, hF, hFM⟩ := hm
  have hlt := at_lt (n := n) (m := s.size) hi hj
  refine ⟨i * (s.size + 1), F (i * (s.size + 1) + j), rfl, by simp, ?_, ?_, hF.cell hlt, hF.frozen _, hFM i j hi hj⟩
  · rw [hc.hN]; omega
  · have h1 : (n + 1) * (s.size + 1) ≤ 513 * 513 := Nat.mul_le_mul (by have := hc.hn; omega) (by have := hc.hs; omega)
    rw [hc.hN]; omega

theorem index_txt (s : ByteArray) (j : Nat) (h : j < s.size) (w : World) : Sem.run Try.prog (Instr.index 9 (.string s) (.int .i64 (j : Int))) w = .ok (.int .u8 (txt s j)) w := by
  have h1 : (j : Int) < (s.size : Int) := by omega
  rw [txt_eq s j h]
  go_simp

theorem txt_lo (s : ByteArray) (j : Nat) : 0 ≤ txt s j := by unfold txt; split <;> omega
theorem txt_hi (s : ByteArray) (j : Nat) : txt s j ≤ 255 := by
  unfold txt
  split
  · rename_i h
    have := UInt8.toNat_lt s[j]
    omega
  · omega

/-- The end of a way on which the answer is yes; no. -/
theorem fin_yes {Bd mb n m r i j p : Nat} {M : Nat → Nat → Prop} {w w1 : World} (hm : Memo w1 mb n m M) (hb : Below Bd w w1) (hB : Bd ≤ mb) (hi : i ≤ n) (hj : j ≤ m) (hp : p = i * (m + 1)) (hr : n - i = r) (hM : M r j) :
    RetMod Bd mb n m M r j w (.returned (.bool true)) (w1.setCell ⟨mb, p + j, none⟩ (.int .i8 1)) :=
  ⟨true, rfl, ⟨fun _ => hM, fun _ => rfl⟩, hm.yes hi hj hp (by rw [hr]; exact hM), hb.setCell hB _⟩
theorem fin_no {Bd mb n m r i j p : Nat} {M : Nat → Nat → Prop} {w w1 : World} (hm : Memo w1 mb n m M) (hb : Below Bd w w1) (hB : Bd ≤ mb) (hi : i ≤ n) (hj : j ≤ m) (hp : p = i * (m + 1)) (hr : n - i = r) (hM : ¬ M r j) :
    RetMod Bd mb n m M r j w (.returned (.bool false)) (w1.setCell ⟨mb, p + j, none⟩ (.int .i8 2)) :=
  ⟨false, rfl, ⟨fun h => (by cases h), fun h => absurd h hM⟩, hm.no hi hj hp (by rw [hr]; exact hM), hb.setCell hB _⟩
theorem RetMod.drew {Bd mb n m r j : Nat} {M : Nat → Nat → Prop} {w w' : World} {e : Ending} (h : RetMod Bd mb n m M r j w e w') : RetMod Bd mb n m M r j w e w'.drew := by
  obtain ⟨b, h1, h2, h3, h4⟩ := h
  exact ⟨b, h1, h2, h3, h4.drew⟩
theorem RetMod.drewN {Bd mb n m r j : Nat} {M : Nat → Nat → Prop} {w w' : World} {e : Ending} (h : RetMod Bd mb n m M r j w e w') (q : Nat) : RetMod Bd mb n m M r j w e (w'.drewN q) := by
  obtain ⟨b, h1, h2, h3, h4⟩ := h
  exact ⟨b, h1, h2, h3, below_drewN h4 q⟩

section
variable {Bd mb n N kc bc sc : Nat} {ka ba sa : Option Addr} {s : ByteArray} {K B : Nat → Int} {S : Nat → Nat → Bool}

set_option maxRecDepth 100000 in
set_option maxHeartbeats 400000 in
theorem model_hit (hc : Ctx Bd mb n N s K) (i j : Nat) (w : World) (_hi : i ≤ n) (hj : j ≤ s.size) (hm : Memo w mb n s.size (ModP n s.size K B S (txt s)))
    (p : Nat) (v : Int) (hp : (i : Int) * ((s.size : Int) + 1) = (p : Int)) (hpN : (p : Int) + j < (N : Int)) (hN : (N : Int) ≤ 263169) (hcell : w.cell? ⟨mb, p + j, none⟩ = some (.int .i8 v))
    (hv : (v = 1 ∧ ModP n s.size K B S (txt s) (n - i) j) ∨ (v = 2 ∧ ¬ ModP n s.size K B S (txt s) (n - i) j)) :
    Calls Try.prog 7 #[.slice ka n kc, .slice ba n bc, .slice sa n sc, .string s, .int .i64 i, .int .i64 j, .slice (some ⟨mb, 0, none⟩) N N] w (RetMod Bd mb n s.size (ModP n s.size K B S (txt s)) (n - i) j w) := by
  have hs := hc.hs
  have hn := hc.hn
  have HM : Hid (Memo w mb n s.size (ModP n s.size K B S (txt s))) := hm
  clear hm hc
  rcases hv with ⟨rfl, hM⟩ | ⟨rfl, hM⟩
  · have HQ : Hid (ModP n s.size K B S (txt s) (n - i) j) := hM
    clear hM
    go_enter Try.func7, Try.ntmps7
    go_wp2_with fail
    go_ret
    exact ⟨true, rfl, by simp [HQ.out], HM.out, Below.refl _ _⟩
  · have HQ : Hid (¬ ModP n s.size K B S (txt s) (n - i) j) := hM
    clear hM
    go_enter Try.func7, Try.ntmps7
    go_wp2_with fail
    go_ret
    exact ⟨false, rfl, by simp [HQ.out], HM.out, Below.refl _ _⟩

set_option maxRecDepth 100000 in
set_option maxHeartbeats 400000 in
theorem model_base (hc : Ctx Bd mb n N s K) (j : Nat) (w : World) (hj : j ≤ s.size) (hm : Memo w mb n s.size (ModP n s.size K B S (txt s)))
    (p : Nat) (hpe : p = n * (s.size + 1)) (hp : (n : Int) * ((s.size : Int) + 1) = (p : Int)) (hpN : (p : Int) + j < (N : Int)) (hN : (N : Int) ≤ 263169) (hcell : w.cell? ⟨mb, p + j, none⟩ = some (.int .i8 0)) (hfr : w.frozen? ⟨mb, p + j, none⟩ = false) :
    Calls Try.prog 7 #[.slice ka n kc, .slice ba n bc, .slice sa n sc, .string s, .int .i64 n, .int .i64 j, .slice (some ⟨mb, 0, none⟩) N N] w (RetMod Bd mb n s.size (ModP n s.size K B S (txt s)) 0 j w) := by
  have hs := hc.hs
  have hn := hc.hn
  have HB : Hid (Bd ≤ mb) := hc.hmb
  have HM : Hid (Memo w mb n s.size (ModP n s.size K B S (txt s))) := hm
  have HP : Hid (p = n * (s.size + 1)) := hpe
  clear hm hc hpe
  by_cases e : j = s.size
  · subst e
    have HQ : Hid (ModP n s.size K B S (txt s) (n - n) s.size) := by rw [Nat.sub_self]; exact rfl
    go_enter Try.func7, Try.ntmps7
    go_wp2_with fail
    go_ret
    exact ⟨true, rfl, ⟨fun _ => by rw [← Nat.sub_self n]; exact HQ.out, fun _ => rfl⟩, HM.out.yes (Nat.le_refl _) (Nat.le_refl _) HP.out HQ.out, (Below.refl _ _).setCell HB.out _⟩
  · have HQ : Hid (¬ ModP n s.size K B S (txt s) (n - n) j) := by rw [Nat.sub_self]; exact e
    have e' : ((j : Int) == (s.size : Int)) = false := by rw [beq_eq_false_iff_ne]; omega
    clear e
    go_enter Try.func7, Try.ntmps7
    go_wp2_with fail
    go_ret
    refine ⟨false, rfl, ⟨fun h => (by cases h), fun h => ?_⟩, HM.out.no (Nat.le_refl _) hj HP.out HQ.out, (Below.refl _ _).setCell HB.out _⟩
    have := HQ.out
    rw [Nat.sub_self] at this
    exact absurd h this

end
end Go.Proofs.Qxb6617707a
