import Derived.Test.Qxb6617707aLaw
import Derived.OpenShut
import Derived.ShutString
import Derived.ChangeOld
import Derived.Below
import Derived.Deep.Slices
namespace Go.Proofs.Qxb6617707a.fnMatchTokensAgreesWithSplitModel
open Go.ChangeShapes Go.WideShapes Go.ChangeAt Go.RowKit Go.Deep
open Go.ChangeMaps (open_string shut_string)
set_option linter.unusedVariables false

theorem own : ownKnob Try.prog.godebug = none := by kernel_rfl
theorem laidOut : laidOutB Try.prog = true := by kernel_rfl
theorem cells34 : Try.prog.cellsOf 34 = 256 := by kernel_rfl
theorem cells4 : Try.prog.cellsOf 4 = 1 := by kernel_rfl

theorem cell_lt {w : World} {a : Addr} {v : Value} (h : w.cell? a = some v) : a.block < w.heap.size := by
  unfold World.cell? at h
  split at h
  · rename_i hb
    obtain ⟨hlt, _⟩ := Array.getElem?_eq_some_iff.1 hb
    exact hlt
  · cases h

def boolAt (w : World) (a : Addr) : Bool := match w.cell? a with
  | some (.bool b) => b
  | _ => false

/-- A slice of bytes that came in: its elements by their index. -/
theorem bytes_in {W : World} {H : Type} {enc : TypeId × Value → H} {a : Option Addr} {len cap : Nat} {d : DataW H} {p : List MemPlace}
    (h : DataW.Trod enc Try.prog W 0 (fun _ => true) true 22 (.slice a len cap) d p) :
    ∃ K : Nat → Int, (∀ i, i < len → 0 ≤ K i) ∧ ∀ i, i < len → ∃ b o, a = some ⟨b, o, none⟩ ∧ b < W.heap.size ∧ W.cell? ⟨b, o + i, none⟩ = some (.int .u8 (K i)) := by
  obtain ⟨fuel, hf⟩ := h
  rcases open_ints Try.underlying22 Try.underlying5 (by kernel_rfl) hf with ⟨hcs, _⟩ | ⟨x, l, c, zs, hcs, _, hl, hm, hz, _, hcell, hwz⟩
  · simp [Value.cells] at hcs
    obtain ⟨rfl, rfl, rfl⟩ := hcs
    exact ⟨fun _ => 0, by omega, by omega⟩
  · simp [Value.cells] at hcs
    obtain ⟨rfl, rfl, rfl⟩ := hcs
    have hz' : zs.length = cap := by simpa using hz
    refine ⟨fun i => zs.getD i 0, fun i hi => ?_, fun i hi => ?_⟩
    · have hmem : zs.getD i 0 ∈ zs := by
        rw [List.getD_eq_getElem?_getD, List.getElem?_eq_getElem (by omega)]
        exact List.getElem_mem _
      exact (bounds_u8 (hwz _ hmem)).1
    · obtain ⟨b, off, rfl, hc⟩ := ints_at hcell (by omega)
      exact ⟨b, off, rfl, cell_lt (hc i (by omega)), hc i (by omega)⟩

/-- A slice of arrays of 256 bools that came in. -/
theorem sets_in {W : World} {H : Type} {enc : TypeId × Value → H} {a : Option Addr} {len cap : Nat} {d : DataW H} {p : List MemPlace}
    (h : DataW.Trod enc Try.prog W 0 (fun _ => true) true 23 (.slice a len cap) d p) :
    ∃ S : Nat → Nat → Bool, ∀ i, i < len → ∃ b o, a = some ⟨b, o, none⟩ ∧ b < W.heap.size ∧ ∀ c, c < 256 → W.cell? ⟨b, o + i * 256 + c, none⟩ = some (.bool (S i c)) := by
  obtain ⟨fuel, hf⟩ := h
  rcases open_slice Try.underlying23 hf with ⟨hcs, _⟩ | ⟨x, l, c, m, n, D, Pl, hcs, _, hl, hm, hmm, _, hx⟩
  · simp [Value.cells] at hcs
    obtain ⟨rfl, rfl, rfl⟩ := hcs
    exact ⟨fun _ _ => false, by omega⟩
  · simp [Value.cells] at hcs
    obtain ⟨rfl, rfl, rfl⟩ := hcs
    have hmc : m = cap := by simpa using hmm
    subst hmc
    have key : ∀ i, i < len → ∀ c, c < 256 → ∃ b, W.cell? ((x.add (i * 256)).add c) = some (.bool b) := by
      intro i hi c hc
      obtain ⟨cs', h1, h2⟩ := hx i (by omega)
      rw [cells34] at h1
      obtain ⟨_, hlen, hcell⟩ := World.cells?_some h1
      obtain ⟨xs, m', _, _, _, hxl, hxi⟩ := DataW.trod_array Try.underlying34 h2
      have hb := hxi c hc
      rw [cells4, List.getElem?_eq_getElem (by omega), Nat.mul_one] at hb
      obtain ⟨b, hb1, _⟩ := DataW.trod_bool Try.underlying4 hb
      refine ⟨b, ?_⟩
      rw [hcell c hc]
      have := congrArg (fun l => l[0]?) hb1
      simpa [List.getElem?_take, List.getElem?_drop] using this
    refine ⟨fun i c => boolAt W ((x.add (i * 256)).add c), fun i hi => ?_⟩
    obtain ⟨b0, hb0⟩ := key 0 (by omega) 0 (by omega)
    obtain ⟨b, off, spot⟩ := x
    have hspot : spot = none := by simpa [Addr.add] using World.cell?_spot hb0
    subst hspot
    refine ⟨b, off, rfl, by simpa [Addr.add] using cell_lt hb0, fun c hc => ?_⟩
    obtain ⟨v, hv⟩ := key i hi c hc
    have e : ((⟨b, off, none⟩ : Addr).add (i * 256)).add c = ⟨b, off + i * 256 + c, none⟩ := by rw [add_plain, add_plain]
    simp only [boolAt]
    rw [e] at hv ⊢
    rw [hv]

set_option maxRecDepth 100000 in
theorem lifted (os : Os) (started : os.Started) (H : Type) (enc : TypeId × Value → H) :
    ReturnsInHanded {} Try.checked os 3 .any (Rows.fnMatchTokensAgreesWithSplitModelSpec.pre6 enc Try.prog Try.f3 Rows.fnMatchTokensAgreesWithSplitModelRow.domain false) (Rows.fnMatchTokensAgreesWithSplitModelSpec.post enc Try.prog Try.f3 false true false false) := by
  refine returnsInHanded_of_change (C := Try.checked) own started (by kernel_rfl) Try.func3
    (ChangeSpec.witness6 (enc := enc) (C := Try.checked) false ⟨#[], #[.slice none 0 0, .slice none 0 0, .slice none 0 0, .string ⟨#[]⟩], []⟩ 8 (by kernel_rfl) (by kernel_rfl) (by kernel_rfl) (by kernel_rfl)) ?_
  intro W base args ds gs before hval0 hW hcnd _
  have hval : ∀ (j : Nat) t v, Try.f3.params[j]? = some t → args[j]? = some v → Value.okWide Try.prog W .any base t v := hval0
  have hW' := hW
  obtain ⟨p, q, hA0, hV, rfl, hfz, hnd⟩ := hW
  have hA : DataW.TrodAll enc Try.prog W 0 (fun _ => true) true Try.f3.params.toList args.toList ds p := hA0
  rw [Try.params3] at hA hval
  obtain ⟨v0, vs0, d0, ds0, p0, q0, hargs, rfl, rfl, h0, r0⟩ := trodAll_cons hA
  obtain ⟨v1, vs1, d1, ds1, p1, q1, rfl, rfl, rfl, h1, r1⟩ := trodAll_cons r0
  obtain ⟨v2, vs2, d2, ds2, p2, q2, rfl, rfl, rfl, h2, r2⟩ := trodAll_cons r1
  obtain ⟨v3, vs3, d3, ds3, p3, q3, rfl, rfl, rfl, h3, r3⟩ := trodAll_cons r2
  obtain ⟨rfl, rfl, rfl⟩ := trodAll_nil r3
  obtain rfl : args = #[v0, v1, v2, v3] := by cases args; simp_all
  obtain ⟨rfl, rfl⟩ := trodVars_none hV
  obtain ⟨a0, len0, cap0, rfl⟩ := okWide_slice Try.underlying22 (hval 0 22 v0 rfl rfl)
  obtain ⟨a1, len1, cap1, rfl⟩ := okWide_slice Try.underlying22 (hval 1 22 v1 rfl rfl)
  obtain ⟨a2, len2, cap2, rfl⟩ := okWide_slice Try.underlying23 (hval 2 23 v2 rfl rfl)
  have lt0 : ∀ x ∈ p0, x.block < W.heap.size := by obtain ⟨m, hm⟩ := h0; exact DataW.trod_lt m _ _ _ hm
  have lt1 : ∀ x ∈ p1, x.block < W.heap.size := by obtain ⟨m, hm⟩ := h1; exact DataW.trod_lt m _ _ _ hm
  have lt2 : ∀ x ∈ p2, x.block < W.heap.size := by obtain ⟨m, hm⟩ := h2; exact DataW.trod_lt m _ _ _ hm
  obtain ⟨K, hK0, hK⟩ := bytes_in h0
  obtain ⟨B, _, hB⟩ := bytes_in h1
  obtain ⟨S, hS⟩ := sets_in h2
  obtain ⟨s, rfl, rfl, rfl, hs⟩ := open_string Try.underlying9 (hval 3 9 v3 rfl rfl) h3
  clear hA0 hval0
  refine (law_any a0 a1 a2 len0 cap0 len1 cap1 len2 cap2 s K B S W hs hK hB hS hK0).mono fun e W' ⟨he, bel⟩ => ?_
  subst he
  exact ⟨_, rfl, _, _, _, [], _, [], hW', trodAll_mk1 (shut_bool Try.underlying4 _), (trodAll_cons_mk (Below.trod laidOut (by kernel_rfl) (of_decide_eq_true (by kernel_rfl)) h0 bel lt0) (trodAll_cons_mk (Below.trod laidOut (by kernel_rfl) (of_decide_eq_true (by kernel_rfl)) h1 bel lt1) (trodAll_cons_mk (Below.trod laidOut (by kernel_rfl) (of_decide_eq_true (by kernel_rfl)) h2 bel lt2) (trodAll_cons_mk (shut_string Try.underlying9 hs) trodAll_mk0)))), rfl, bel.frame _, fun h => by cases h⟩

theorem over : Rows.fnMatchTokensAgreesWithSplitModelRow.holds Try.pinned (OpenSpec.ofChange Rows.fnMatchTokensAgreesWithSplitModelSpec) :=
  OpenClaim.holds_of_wide 3 Try.f3 rfl rfl rfl rfl rfl rfl rfl ⟨rfl, rfl, rfl, rfl, rfl⟩ rfl rfl rfl rfl rfl (by kernel_rfl) Try.func3 (by kernel_rfl)
    (of_decide_eq_true (by kernel_rfl)) (by unfold Func.isWrapper; first | (rw [if_pos (by decide +kernel)]; kernel_rfl) | (rw [if_neg (by decide +kernel)]; exact ⟨rfl, rfl⟩))
    (fun os started H enc _ => lifted os started H enc)

/-- THE STATEMENT -/
theorem proved : Rows.FnMatchTokensAgreesWithSplitModelSaid := over
end Go.Proofs.Qxb6617707a.fnMatchTokensAgreesWithSplitModel
