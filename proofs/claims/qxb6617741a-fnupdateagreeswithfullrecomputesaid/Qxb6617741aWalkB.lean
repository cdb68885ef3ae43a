import Derived.Test.Qxb6617741aWalkA
namespace Go.Proofs.Qxb6617741a
open Go.RowKit Go.Deep

/-- The call answers a bool; nothing has turned. -/
def RetBool (w : World) (e : Ending) (w' : World) : Prop := ∃ r : Bool, e = .returned (.bool r) ∧ w' = w

set_option maxHeartbeats 400000 in
theorem bytes_any (a : Option Addr) (n c : Nat) (i now : Int) (w : World) :
    Calls Try.prog 6 #[.slice a n c, .int .i64 i, .int .u16 now] w (RetBool w) := by
  go_enter Try.func6, Try.ntmps6
  go_wp2
  all_goals (go_ret; exact ⟨_, rfl, rfl⟩)

/-- The sum of the first k words. -/
def total (Z : Nat → Int) : Nat → Int
  | 0 => 0
  | k + 1 => total Z k + Z k

theorem total_range (Z : Nat → Int) (n : Nat) (h : ∀ i, i < n → 0 ≤ Z i ∧ Z i ≤ 65535) (k : Nat) (hk : k ≤ n) : 0 ≤ total Z k ∧ total Z k ≤ 65535 * k := by
  induction k with
  | zero => simp [total]
  | succ k ih =>
    have h1 := ih (by omega)
    have h2 := h k (by omega)
    simp only [total]
    omega

theorem total_congr (Z Y : Nat → Int) (k : Nat) (h : ∀ i, i < k → Z i = Y i) : total Z k = total Y k := by
  induction k with
  | zero => rfl
  | succ k ih => simp only [total]; rw [ih (fun i hi => h i (by omega)), h k (by omega)]

theorem total_set (Z : Nat → Int) (i : Nat) (v : Int) (k : Nat) (h : i < k) : total (fun j => if j = i then v else Z j) k = total Z k - Z i + v := by
  induction k with
  | zero => omega
  | succ k ih =>
    simp only [total]
    by_cases e : i = k
    · subst e
      have : total (fun j => if j = i then v else Z j) i = total Z i := total_congr _ _ _ (fun j hj => by simp; omega)
      simp only [this, if_true]; omega
    · rw [ih (by omega)]
      have : ¬ k = i := fun h => e h.symm
      simp [this]; omega

theorem total_zero (Z : Nat → Int) (n : Nat) (h : ∀ i, i < n → 0 ≤ Z i) (k : Nat) (hk : k ≤ n) : total Z k = 0 ↔ ∀ i, i < k → Z i = 0 := by
  induction k with
  | zero => simp [total]
  | succ k ih =>
    have h0 : 0 ≤ total Z k := by
      clear ih
      induction k with
      | zero => simp [total]
      | succ k ih2 => simp only [total]; have := ih2 (by omega); have := h k (by omega); omega
    have h1 := h k (by omega)
    simp only [total]
    constructor
    · intro e i hi
      have e1 : total Z k = 0 := by omega
      by_cases e2 : i = k
      · subst e2; omega
      · exact (ih (by omega)).1 e1 i (by omega)
    · intro e
      rw [(ih (by omega)).2 (fun i hi => e i (by omega)), e k (by omega)]; rfl

/-- The full checksum. -/
def full (Z : Nat → Int) (n : Nat) : Int := 65535 - red (total Z n)

set_option maxHeartbeats 400000 in
theorem full_any (a : Option Addr) (n c : Nat) (Z : Nat → Int) (w : World) (hn : n ≤ 65536) (hz : ∀ i, i < n → 0 ≤ Z i ∧ Z i ≤ 65535)
    (hk : ∀ i, i < n → ∃ b o, a = some ⟨b, o, none⟩ ∧ w.cell? ⟨b, o + i, none⟩ = some (.int .u16 (Z i))) :
    Calls Try.prog 8 #[.slice a n c] w fun e w' => e = .returned (.int .u16 (full Z n)) ∧ w' = w := by
  have HZ : Hid (∀ i, i < n → 0 ≤ Z i ∧ Z i ≤ 65535) := hz
  have HK : Hid (∀ i, i < n → ∃ b o, a = some ⟨b, o, none⟩ ∧ w.cell? ⟨b, o + i, none⟩ = some (.int .u16 (Z i))) := hk
  have hn' : (n : Int) ≤ 65536 := by omega
  clear hz hk hn
  go_enter Try.func8, Try.ntmps8
  go_wp2
  go_loopg [3, 4] (n + 1) (fun g tv iv wx => ∃ k : Nat, ∃ t : Int, n + 1 ≤ g + k ∧ k ≤ n ∧ iv = .int .i64 (k : Int) ∧ tv = .int .u64 t ∧ t = total Z k ∧ w = wx)
  case atStart => exact ⟨0, 0, by omega, Nat.zero_le _, rfl, rfl, rfl, rfl⟩
  case round =>
    obtain ⟨k, t, Hg, hk, rfl, rfl, ht, rfl⟩ := hrel
    have HX : Hid (n + 1 ≤ gk + k ∧ t = total Z k) := ⟨Hg, ht⟩
    have hr := total_range Z n HZ.out k hk
    rw [← ht] at hr
    obtain ⟨hr0, hr1⟩ := hr
    have hr2 : t ≤ 4294967296 := by omega
    clear Hg ht
    by_cases hlt : k < n
    · obtain ⟨b, o, rfl, hc⟩ := HK.out k hlt
      obtain ⟨z0, z1⟩ := HZ.out k hlt
      go_wp2
      go_roundg (n - k)
      case measure => go_light; have := HX.out.1; omega
      case rel =>
        go_light
        exact ⟨k + 1, _, by omega, by omega, by go_num, rfl, by rw [HX.out.2]; rfl, rfl⟩
    · have HE : Hid (k = n) := by show k = n; omega
      by_cases h0 : t = 0
      · have HF : Hid (full Z n = 65535) := by
          show full Z n = 65535
          unfold full
          rw [← HE.out, ← HX.out.2, h0]
          simp [red]
        have e0 : (t != 0) = false := by simp [h0]
        clear h0
        go_wp2
        go_ret
        exact ⟨by rw [HF.out]; rfl, rfl⟩
      · have HF : Hid (full Z n = 65535 - ((t - 1) % 65535 + 1)) := by
          show full Z n = _
          unfold full
          rw [← HE.out, ← HX.out.2]
          simp [red, h0]
        have e0 : (t != 0) = true := by simp [h0]
        have t1 : 1 ≤ t := by omega
        clear h0
        go_wp2
        go_ret
        exact ⟨by rw [HF.out]; rfl, rfl⟩

/-- The call says whether all words are 0; nothing has turned. -/
def RetZero (Z : Nat → Int) (n : Nat) (w : World) (e : Ending) (w' : World) : Prop := ∃ r : Bool, e = .returned (.bool r) ∧ (r = true ↔ ∀ i, i < n → Z i = 0) ∧ w' = w

set_option maxHeartbeats 400000 in
theorem zero_any (a : Option Addr) (n c : Nat) (Z : Nat → Int) (w : World) (hn : n ≤ 65536)
    (hk : ∀ i, i < n → ∃ b o, a = some ⟨b, o, none⟩ ∧ w.cell? ⟨b, o + i, none⟩ = some (.int .u16 (Z i))) :
    Calls Try.prog 9 #[.slice a n c] w (RetZero Z n w) := by
  have HK : Hid (∀ i, i < n → ∃ b o, a = some ⟨b, o, none⟩ ∧ w.cell? ⟨b, o + i, none⟩ = some (.int .u16 (Z i))) := hk
  have hn' : (n : Int) ≤ 65536 := by omega
  clear hk hn
  go_enter Try.func9, Try.ntmps9
  go_wp2
  go_loopg [3] (n + 1) (fun g iv wx => ∃ k : Nat, n + 1 ≤ g + k ∧ k ≤ n ∧ iv = .int .i64 (k : Int) ∧ (∀ i, i < k → Z i = 0) ∧ w = wx)
  case atStart => exact ⟨0, by omega, Nat.zero_le _, rfl, by omega, rfl⟩
  case round =>
    obtain ⟨k, Hg, hk, rfl, hzz, rfl⟩ := hrel
    have HX : Hid (n + 1 ≤ gk + k ∧ ∀ i, i < k → Z i = 0) := ⟨Hg, hzz⟩
    clear Hg hzz
    by_cases hlt : k < n
    · obtain ⟨b, o, rfl, hc⟩ := HK.out k hlt
      by_cases h0 : Z k = 0
      · have e0 : (Z k != 0) = false := by simp [h0]
        have H0 : Hid (Z k = 0) := h0
        clear h0
        go_wp2
        go_roundg (n - k)
        case measure => go_light; have := HX.out.1; omega
        case rel =>
          go_light
          refine ⟨k + 1, by omega, by omega, by go_num, fun i hi => ?_, rfl⟩
          by_cases e : i = k
          · subst e; exact H0.out
          · exact HX.out.2 i (by omega)
      · have e0 : (Z k != 0) = true := by simp [h0]
        have H0 : Hid (¬ Z k = 0) := h0
        clear h0
        go_wp2
        go_ret
        exact ⟨false, rfl, ⟨fun h => (by cases h), fun h => absurd (h k hlt) H0.out⟩, rfl⟩
    · go_wp2
      go_ret
      exact ⟨true, rfl, ⟨fun _ i hi => HX.out.2 i (by omega), fun _ => rfl⟩, rfl⟩

theorem info22 : (Try.prog.info? 22).map (fun i => (i.zero, i.size, i.bytes)) = some (some (.int .u16 0), 1, 2) := by kernel_rfl

set_option maxHeartbeats 400000 in
theorem clone_any (b o n c : Nat) (Z : Nat → Int) (w : World) (hn : n ≤ 65536) (hb : b < w.heap.size)
    (hk : ∀ i, i < n → w.cell? ⟨b, o + i, none⟩ = some (.int .u16 (Z i))) :
    Calls Try.prog 7 #[.slice (some ⟨b, o, none⟩) n c] w fun e w' => e = .returned (.slice (some ⟨w.heap.size, 0, none⟩) n n) ∧ w'.rowIs w.heap.size 22 n (fun i => .int .u16 (Z i)) ∧ Below w.heap.size w w' := by
  have HK : Hid (∀ i, i < n → w.cell? ⟨b, o + i, none⟩ = some (.int .u16 (Z i))) := hk
  have hn' : (n : Int) ≤ 65536 := by omega
  have hmk := fun w => run_make_row' (P := Try.prog) 26 22 (.int .u16 0) 2 Try.underlying26 info22 rfl .i64 .i64 n (by omega) (by omega) w
  have hnil := fun w => Lib.run_eql_slice_nil (P := Try.prog) w 26 22 (some ⟨b, o, none⟩) n c 0 0 Try.underlying26
  clear hk hn
  go_enter Try.func7, Try.ntmps7
  go_wp2
  go_loopg [4] (n + 1) (fun g iv wx => ∃ k : Nat, n + 1 ≤ g + k ∧ k ≤ n ∧ iv = .int .i64 (k : Int) ∧ (∃ F : Nat → Value, wx.rowIs w.heap.size 22 n F ∧ ∀ i, i < k → F i = .int .u16 (Z i)) ∧ Below w.heap.size w wx)
  case atStart => exact ⟨0, by omega, Nat.zero_le _, rfl, ⟨_, World.rowIs_made w _ n 22, by omega⟩, (Below.refl _ _).alloc (Nat.le_refl _) _⟩
  case round =>
    obtain ⟨k, Hg, hk, rfl, ⟨F, hF, hFZ⟩, hbel⟩ := hrel
    have HX : Hid (n + 1 ≤ gk + k ∧ wr.rowIs w.heap.size 22 n F ∧ (∀ i, i < k → F i = .int .u16 (Z i)) ∧ Below w.heap.size w wr) := ⟨Hg, hF, hFZ, hbel⟩
    clear Hg hF hFZ hbel
    by_cases hlt : k < n
    · have c0 := (HX.out.2.2.2.cell (p := ⟨b, o + k, none⟩) hb).trans (HK.out k hlt)
      have c1 := HX.out.2.1.cell hlt
      have f1 := HX.out.2.1.frozen k
      go_wp2
      go_roundg (n - k)
      case measure => go_light; have := HX.out.1; omega
      case rel =>
        go_light
        refine ⟨k + 1, by omega, by omega, by go_num, ⟨_, HX.out.2.1.set k _, fun i hi => ?_⟩, HX.out.2.2.2.setCell (Nat.le_refl _) _⟩
        by_cases e : i = k
        · subst e; simp
        · simp only [if_neg e]; exact HX.out.2.2.1 i (by omega)
    · have HR : Hid (wr.rowIs w.heap.size 22 n (fun i => .int .u16 (Z i))) := HX.out.2.1.congr (fun i hi => HX.out.2.2.1 i (by omega))
      go_wp2
      go_ret
      exact ⟨rfl, HR.out, HX.out.2.2.2⟩
end Go.Proofs.Qxb6617741a
