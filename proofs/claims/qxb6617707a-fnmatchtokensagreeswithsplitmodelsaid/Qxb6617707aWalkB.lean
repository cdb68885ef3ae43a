import Derived.Test.Qxb6617707aWalkA
import Derived.Test.Qxb6617707aPlain
import Derived.Deep.RegionWith
import Derived.Deep.OwnRows
namespace Go.Proofs.Qxb6617707a
open Go.RowKit Go.Deep

theorem below_undrew {B : Nat} {w w' : World} (h : Below B w.drew w') : Below B w w' := ⟨h.os, h.tape, h.output, h.size, h.block⟩

set_option maxHeartbeats 400000 in
theorem takes_any (k b c : Int) (sb so : Nat) (S : Nat → Bool) (w : World) (hc0 : 0 ≤ c) (hc1 : c ≤ 255) (hsb : sb < w.heap.size)
    (hs : ∀ c, c < 256 → w.cell? ⟨sb, so + c, none⟩ = some (.bool (S c))) :
    Calls Try.prog 14 #[.agg #[.int .u8 k, .int .u8 b, .pointer (some ⟨sb, so, none⟩)], .int .u8 c] w fun e w' => e = .returned (.bool (takesB k b S c)) ∧ Below w.heap.size w w' := by
  by_cases h0 : k = 0
  · subst h0
    go_enter Try.func14, Try.ntmps14
    go_wp2
    go_ret
    exact ⟨by simp [takesB], (Below.refl _ _).alloc (Nat.le_refl _) _⟩
  · by_cases h1 : k = 1
    · subst h1
      go_enter Try.func14, Try.ntmps14
      go_wp2
      go_ret
      exact ⟨by simp [takesB], (Below.refl _ _).alloc (Nat.le_refl _) _⟩
    · have hcc := hs c.toNat (by omega)
      have e0 : (k == 0) = false := by simp [h0]
      have e1 : (k == 1) = false := by simp [h1]
      have HF : Hid (takesB k b S c = S c.toNat) := by unfold takesB; rw [if_neg h0, if_neg h1]; exact rfl
      clear hs h0 h1
      go_enter Try.func14, Try.ntmps14
      go_wp2
      go_ret
      exact ⟨by rw [HF.out]; rfl, (Below.refl _ _).alloc (Nat.le_refl _) _⟩

set_option maxHeartbeats 400000 in
theorem make_any (k b : Int) (p : Option Addr) (w : World) :
    Calls Try.prog 13 #[.int .u8 k, .int .u8 b, .pointer p] w fun e w' => e = .returned (.agg #[.int .u8 k, .int .u8 b, .pointer p]) ∧ Below w.heap.size w w' := by
  go_enter Try.func13, Try.ntmps13
  go_wp2
  exact bodyPost_ret (v := .agg #[.int .u8 k, .int .u8 b, .pointer p]) (by simp [results, Try.results13, go_sem]) rfl ⟨rfl, (Below.refl _ _).alloc (Nat.le_refl _) _⟩

theorem info38 : (Try.prog.info? 38).map (fun i => (i.zero, i.size, i.bytes)) = some (some (.agg #[.int .u8 0, .int .u8 0, .pointer none]), 3, 16) := by kernel_rfl

/-- What the arguments hold, below block Bd. -/
structure Args (w : World) (Bd n : Nat) (ka ba sa : Option Addr) (K B : Nat → Int) (S : Nat → Nat → Bool) : Prop where
  k : ∀ i, i < n → ∃ b o, ka = some ⟨b, o, none⟩ ∧ b < Bd ∧ w.cell? ⟨b, o + i, none⟩ = some (.int .u8 (K i))
  b : ∀ i, i < n → ∃ b o, ba = some ⟨b, o, none⟩ ∧ b < Bd ∧ w.cell? ⟨b, o + i, none⟩ = some (.int .u8 (B i))
  s : ∀ i, i < n → ∃ b o, sa = some ⟨b, o, none⟩ ∧ b < Bd ∧ ∀ c, c < 256 → w.cell? ⟨b, o + i * 256 + c, none⟩ = some (.bool (S i c))

theorem Args.later {w w' : World} {Bd n : Nat} {ka ba sa : Option Addr} {K B : Nat → Int} {S : Nat → Nat → Bool} (h : Args w Bd n ka ba sa K B S) (hb : Below Bd w w') : Args w' Bd n ka ba sa K B S where
  k := fun i hi => by obtain ⟨b, o, e, hlt, hc⟩ := h.k i hi; exact ⟨b, o, e, hlt, (hb.cell (p := ⟨b, o + i, none⟩) hlt).trans hc⟩
  b := fun i hi => by obtain ⟨b, o, e, hlt, hc⟩ := h.b i hi; exact ⟨b, o, e, hlt, (hb.cell (p := ⟨b, o + i, none⟩) hlt).trans hc⟩
  s := fun i hi => by obtain ⟨b, o, e, hlt, hc⟩ := h.s i hi; exact ⟨b, o, e, hlt, fun c hc' => (hb.cell (p := ⟨b, o + i * 256 + c, none⟩) hlt).trans (hc c hc')⟩

/-- The tokens, as they lie behind the slice. -/
def Toks (w : World) (Bd tb n : Nat) (K B : Nat → Int) (S : Nat → Nat → Bool) : Prop :=
  ∀ i, i < n → w.cell? ⟨tb, 3 * i, none⟩ = some (.int .u8 (K i)) ∧ w.cell? ⟨tb, 3 * i + 1, none⟩ = some (.int .u8 (B i)) ∧
    ∃ sb so, sb < Bd ∧ w.cell? ⟨tb, 3 * i + 2, none⟩ = some (.pointer (some ⟨sb, so, none⟩)) ∧ ∀ c, c < 256 → w.cell? ⟨sb, so + c, none⟩ = some (.bool (S i c))

/-- The first k tokens have been laid. -/
def Building (w : World) (tb n k : Nat) (K B : Nat → Int) (sa : Option Addr) : Prop := ∃ c : Array Value, w.heap[tb]? = some (.cells c 38 (0, 0)) ∧ c.size = n * 3 ∧
  ∀ i, i < k → c[i * 3]? = some (.int .u8 (K i)) ∧ c[i * 3 + 1]? = some (.int .u8 (B i)) ∧ ∃ sb so, sa = some ⟨sb, so, none⟩ ∧ c[i * 3 + 2]? = some (.pointer (some ⟨sb, so + i * 256, none⟩))

theorem Building.cells {w : World} {tb n k : Nat} {K B : Nat → Int} {sa : Option Addr} (h : Building w tb n k K B sa) (j : Nat) (hj : j < n * 3) : ∃ v, w.cell? ⟨tb, j, none⟩ = some v := by
  obtain ⟨c, hb, hs, _⟩ := h
  exact ⟨c[j], by simp [World.cell?, hb, hs, hj]⟩
theorem Building.frozen {w : World} {tb n k : Nat} {K B : Nat → Int} {sa : Option Addr} (h : Building w tb n k K B sa) (j : Nat) : w.frozen? ⟨tb, j, none⟩ = false := by
  obtain ⟨c, hb, hs, _⟩ := h
  simp [World.frozen?, hb]
theorem Building.lt {w : World} {tb n k : Nat} {K B : Nat → Int} {sa : Option Addr} (h : Building w tb n k K B sa) : tb < w.heap.size := by
  obtain ⟨c, hb, _, _⟩ := h
  obtain ⟨hlt, _⟩ := Array.getElem?_eq_some_iff.1 hb
  exact hlt
theorem Building.later {w w' : World} {tb n k : Nat} {K B : Nat → Int} {sa : Option Addr} (h : Building w tb n k K B sa) (hb : Below w.heap.size w w') : Building w' tb n k K B sa := by
  have hl := h.lt
  obtain ⟨c, h1, h2⟩ := h
  exact ⟨c, (hb.block tb hl).trans h1, h2⟩

theorem Building.step {w : World} {tb n k : Nat} {K B : Nat → Int} {sb so : Nat} (h : Building w tb n k K B (some ⟨sb, so, none⟩)) (hk : k < n) :
    Building (((w.setCell ⟨tb, k * 3, none⟩ (.int .u8 (K k))).setCell ⟨tb, k * 3 + 1, none⟩ (.int .u8 (B k))).setCell ⟨tb, k * 3 + 2, none⟩ (.pointer (some ⟨sb, so + k * 256, none⟩))) tb n (k + 1) K B (some ⟨sb, so, none⟩) := by
  obtain ⟨c, hb, hs, hc⟩ := h
  refine ⟨((c.setIfInBounds (k * 3) (.int .u8 (K k))).setIfInBounds (k * 3 + 1) (.int .u8 (B k))).setIfInBounds (k * 3 + 2) (.pointer (some ⟨sb, so + k * 256, none⟩)), ?_, by simpa using hs, fun i hi => ?_⟩
  · simp [World.setCell, Array.getElem?_modify, hb]
  · simp only [Array.getElem?_setIfInBounds, Array.size_setIfInBounds, hs]
    by_cases e : i = k
    · subst e
      refine ⟨?_, ?_, sb, so, rfl, ?_⟩
      · rw [if_neg (by omega), if_neg (by omega), if_pos rfl, if_pos (by omega)]
      · rw [if_neg (by omega), if_pos rfl, if_pos (by omega)]
      · rw [if_pos rfl, if_pos (by omega)]
    · obtain ⟨h0, h1, sb', so', e', h2⟩ := hc i (by omega)
      refine ⟨?_, ?_, sb', so', e', ?_⟩
      · rw [if_neg (by omega), if_neg (by omega), if_neg (by omega)]; exact h0
      · rw [if_neg (by omega), if_neg (by omega), if_neg (by omega)]; exact h1
      · rw [if_neg (by omega), if_neg (by omega), if_neg (by omega)]; exact h2

theorem Building.toks {w : World} {Bd tb n : Nat} {K B : Nat → Int} {S : Nat → Nat → Bool} {ka ba sa : Option Addr} (h : Building w tb n n K B sa) (ha : Args w Bd n ka ba sa K B S) : Toks w Bd tb n K B S := by
  obtain ⟨c, hb, hs, hc⟩ := h
  intro i hi
  obtain ⟨h0, h1, sb, so, e, h2⟩ := hc i hi
  obtain ⟨sb', so', e', hlt, h3⟩ := ha.s i hi
  have e2 : i * 3 = 3 * i := Nat.mul_comm _ _
  rw [e2] at h0 h1 h2
  rw [e] at e'
  simp only [Option.some.injEq, Addr.mk.injEq, and_true] at e'
  obtain ⟨rfl, rfl⟩ := e'
  exact ⟨by simp [World.cell?, hb, h0], by simp [World.cell?, hb, h1], sb, so + i * 256, hlt, by simp [World.cell?, hb, h2], h3⟩

set_option maxRecDepth 100000 in
set_option maxHeartbeats 800000 in
theorem build_any (ka ba sa : Option Addr) (n kc bc sc : Nat) (K B : Nat → Int) (S : Nat → Nat → Bool) (w : World) (hn : n ≤ 512)
    (ha : Args w w.heap.size n ka ba sa K B S) :
    Calls Try.prog 9 #[.slice ka n kc, .slice ba n bc, .slice sa n sc] w fun e w' => e = .returned (.slice (some ⟨w.heap.size, 0, none⟩) n n) ∧ Toks w' w.heap.size w.heap.size n K B S ∧ w.heap.size < w'.heap.size ∧ Below w.heap.size w w' := by
  have HA : Hid (Args w w.heap.size n ka ba sa K B S) := ha
  clear ha
  obtain ⟨i0, hi, hz0, hz1, hz2⟩ := info_parts info38
  have hmk := fun w => run_make (P := Try.prog) (w := w) 29 38 i0 _ Try.underlying29 hi hz0 .i64 .i64 (n : Int) (n : Int) (by omega) (Int.le_refl _) (by rw [hz2]; omega) (by omega)
  go_enter Try.func9, Try.ntmps9
  go_wp2
  go_loopw [8] (fun i wr => ∃ k : Nat, k ≤ n ∧ i = .int .i64 k ∧ Building wr w.heap.size n k K B sa ∧ Below w.heap.size w wr) (fun i _ => n - (intOf i).toNat)
  case atStart => exact ⟨0, by omega, rfl, ⟨_, blk_alloc_new _ _, size_madeCells _ _, by omega⟩, (Below.refl _ _).alloc (Nat.le_refl _) _⟩
  case round =>
    obtain ⟨k, hk, rfl, hB, hbel⟩ := hrel
    have HB : Hid (Building wr w.heap.size n k K B sa) := hB
    have HBEL : Hid (Below w.heap.size w wr) := hbel
    clear hB hbel
    by_cases hlt : k < n
    · obtain ⟨kb, ko, rfl, hkl, hkc⟩ := (HA.out.later HBEL.out).k k hlt
      obtain ⟨bb, bo, rfl, hbl, hbc⟩ := (HA.out.later HBEL.out).b k hlt
      obtain ⟨sb, so, rfl, hsl, hsc⟩ := (HA.out.later HBEL.out).s k hlt
      clear hsc hmk
      go_wp2
      go_region_with (go_at_call 13; refine (make_any _ _ _ _).mono ?_; rintro e w1 ⟨rfl, hb1⟩; have hb2 : Hid (Below wr.heap.size wr w1) := below_undrew hb1; clear hb1; obtain ⟨v0, c0⟩ := (HB.out.later hb2.out).cells (k * 3) (by omega); obtain ⟨v1, c1⟩ := (HB.out.later hb2.out).cells (k * 3 + 1) (by omega); obtain ⟨v2, c2⟩ := (HB.out.later hb2.out).cells (k * 3 + 2) (by omega); have f0 := (HB.out.later hb2.out).frozen (k * 3); have f1 := (HB.out.later hb2.out).frozen (k * 3 + 1); have f2 := (HB.out.later hb2.out).frozen (k * 3 + 2))
      all_goals
        have HS : Hid (Building (((w1.setCell ⟨w.heap.size, k * 3, none⟩ (.int .u8 (K k))).setCell ⟨w.heap.size, k * 3 + 1, none⟩ (.int .u8 (B k))).setCell ⟨w.heap.size, k * 3 + 2, none⟩ (.pointer (some ⟨sb, so + k * 256, none⟩))) w.heap.size n (k + 1) K B (some ⟨sb, so, none⟩)) := (HB.out.later hb2.out).step hlt
        go_wp2
        go_roundw
        case rel => exact ⟨k + 1, by omega, by go_num, HS.out, (((HBEL.out.trans (hb2.out.mono HBEL.out.size)).setCell (Nat.le_refl _) _).setCell (Nat.le_refl _) _).setCell (Nat.le_refl _) _⟩
        case measure => simp [intOf]; omega
    · have e : k = n := by omega
      subst e
      have HT : Hid (Toks wr w.heap.size w.heap.size k K B S) := HB.out.toks (HA.out.later HBEL.out)
      have HL : Hid (w.heap.size < wr.heap.size) := HB.out.lt
      go_wp2
      go_ret
      exact ⟨rfl, HT.out, HL.out, HBEL.out⟩
end Go.Proofs.Qxb6617707a
