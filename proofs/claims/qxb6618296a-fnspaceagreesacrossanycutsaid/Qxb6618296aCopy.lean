import Derived.Test.Qxb6618296aWalkB
import Derived.Laws.IdiomCopy
import Derived.WalkSpells
namespace Go.Proofs.Qxb6618296a
open Go.RowKit Go.Deep

theorem info5 : (Try.prog.info? 5).map (fun i => (i.zero, i.size, i.bytes)) = some (some (.int .u8 0), 1, 1) := by kernel_rfl
theorem size5 : (Try.prog.info? 5).map (·.size) = some 1 := by kernel_rfl

theorem below_setCells {B b : Nat} {w0 : World} (hb : B ≤ b) : ∀ (vs : List Value) (o : Nat) (w : World), Below B w0 w → Below B w0 (w.setCells b o vs)
  | [], _, _, h => h
  | v :: vs, o, w, h => by
    show Below B w0 ((w.setCell ⟨b, o, none⟩ v).setCells b (o + 1) vs)
    exact below_setCells hb vs (o + 1) _ (h.setCell hb v)

theorem cell_lt {w : World} {a : Addr} {v : Value} (h : w.cell? a = some v) : a.block < w.heap.size := by
  unfold World.cell? at h
  split at h
  · rename_i hb
    obtain ⟨hlt, _⟩ := Array.getElem?_eq_some_iff.1 hb
    exact hlt
  · cases h

/-- The copy of a text that came in. -/
theorem copied (x : Addr) (n c : Nat) (Z : Nat → Int) (w : World) (hsrc : ∀ i, i < n → w.cell? (x.add i) = some (.int .u8 (Z i))) :
    ∃ W2, (∀ ty, (Builtin.copy_ #[22, 22] ty #[.slice (some ⟨w.heap.size, 0, none⟩) n n, .slice (some x) n c]).run Try.prog (w.alloc (.cells (madeCells #[.int .u8 0] n) 5)) = .ok (goInt n) W2) ∧
      TextAt W2 W2.heap.size (some ⟨w.heap.size, 0, none⟩) n Z ∧ Below w.heap.size w W2 := by
  have hrow := World.rowIs_made w (.int .u8 0) n 5
  have hlen : ((List.range n).map (fun i => Value.int .u8 (Z i))).length = n := by simp
  have hcell : ∀ j, j < ((List.range n).map (fun i => Value.int .u8 (Z i))).length → ((w.alloc (.cells (madeCells #[.int .u8 0] n) 5)).cell? ⟨w.heap.size, 0 + j, none⟩).isSome = true := fun j hj => by
    rw [Nat.zero_add, hrow.cell (by omega)]; rfl
  have hb1 : Below w.heap.size w (w.alloc (.cells (madeCells #[.int .u8 0] n) 5)) := (Below.refl _ _).alloc (Nat.le_refl _) _
  have hb2 := below_setCells (Nat.le_refl w.heap.size) ((List.range n).map (fun i => Value.int .u8 (Z i))) 0 _ hb1
  have hsz : w.heap.size < ((w.alloc (.cells (madeCells #[.int .u8 0] n) 5)).setCells w.heap.size 0 ((List.range n).map (fun i => Value.int .u8 (Z i)))).heap.size := by
    have h := (below_setCells (w0 := w.alloc (.cells (madeCells #[.int .u8 0] n) 5)) (Nat.le_refl w.heap.size) ((List.range n).map (fun i => Value.int .u8 (Z i))) 0 _ (Below.refl _ _)).size
    simp at h
    omega
  refine ⟨_, fun ty => ?_, ?_, hb2⟩
  · have h := run_copy_cells (P := Try.prog) (w.alloc (.cells (madeCells #[.int .u8 0] n) 5)) 22 22 ty 5 w.heap.size 0 n n x n c ((List.range n).map (fun i => Value.int .u8 (Z i))) Try.underlying22 size5 (by rw [hlen]; exact (Nat.min_self n).symm)
      (fun j v hj => by
        by_cases hjn : j < n
        · have hv : Value.int .u8 (Z j) = v := by simpa [hjn] using hj
          rw [← hv, ← hsrc j hjn]
          exact hb1.cell (p := x.add j) (cell_lt (hsrc j hjn))
        · simp [hjn] at hj)
      hcell (fun j _ => by rw [Nat.zero_add]; exact hrow.frozen j) (fun v hv => by
        simp only [List.mem_map] at hv
        obtain ⟨i, _, rfl⟩ := hv
        rfl)
    rw [hlen] at h
    exact h
  · intro i hi
    refine ⟨_, _, rfl, hsz, ?_⟩
    have h := World.cell?_setCells_in w.heap.size ((List.range n).map (fun i => Value.int .u8 (Z i))) 0 _ hcell i (by omega)
    rw [h]
    simp
end Go.Proofs.Qxb6618296a
