import Derived.Test.Qxb6617707aWalkB
import Derived.Deep.QuietTactic
import Derived.BigQuiet
import Derived.Deep.DeepCutAuto
import Derived.Deep.LoopGhost
namespace Go.Proofs.Qxb6617707a
open Go.RowKit Go.Deep

theorem cell_same {w : World} {a : Addr} {u v : Value} (h : w.cell? a = some u) : (w.setCell a v).cell? a = some v := by
  apply World.cell?_setCell_same; exact h
theorem cell_other {w : World} {a b : Addr} {v : Value} (h : a ≠ b) : (w.setCell a v).cell? b = w.cell? b := by
  apply World.cell?_setCell_other; exact h

/-- From ⟨b, o⟩ on lie N bools, none frozen: the j-th is f j. -/
def RowAt (w : World) (b o N : Nat) (f : Nat → Bool) : Prop := ∀ j, j < N → w.cell? ⟨b, o + j, none⟩ = some (.bool (f j)) ∧ w.frozen? ⟨b, o + j, none⟩ = false

theorem RowAt.set {w : World} {b o N : Nat} {f : Nat → Bool} (h : RowAt w b o N f) (i : Nat) (v : Bool) :
    RowAt (w.setCell ⟨b, o + i, none⟩ (.bool v)) b o N (fun j => if j = i then v else f j) := by
  intro j hj
  refine ⟨?_, by rw [World.frozen?_setCell]; exact (h j hj).2⟩
  by_cases e : j = i
  · subst e
    rw [cell_same (h j hj).1]; simp
  · rw [cell_other (by simp only [ne_eq, Addr.mk.injEq, true_and, and_true]; omega)]
    simp [e, (h j hj).1]

theorem RowAt.other {w : World} {b o N : Nat} {f : Nat → Bool} (h : RowAt w b o N f) (b' o' : Nat) (v : Value) (ha : b' = b → o' < o ∨ o + N ≤ o') : RowAt (w.setCell ⟨b', o', none⟩ v) b o N f := by
  intro j hj
  refine ⟨?_, by rw [World.frozen?_setCell]; exact (h j hj).2⟩
  rw [cell_other (by
    intro e
    simp only [Addr.mk.injEq, and_true] at e
    have := ha e.1
    omega)]
  exact (h j hj).1

theorem RowAt.later {w w' : World} {b o N Bd : Nat} {f : Nat → Bool} (h : RowAt w b o N f) (hb : Below Bd w w') (hlt : b < Bd) : RowAt w' b o N f := fun j hj =>
  ⟨(hb.cell (p := ⟨b, o + j, none⟩) hlt).trans (h j hj).1, (hb.frozen (p := ⟨b, o + j, none⟩) hlt).trans (h j hj).2⟩

theorem RowAt.congr {w : World} {b o N : Nat} {f g : Nat → Bool} (h : RowAt w b o N f) (e : ∀ j, j < N → f j = g j) : RowAt w b o N g := fun j hj => by rw [← e j hj]; exact h j hj

/-- The two rows of the walk: own memory, apart. -/
structure Two (w0 w : World) (cb co nb no N : Nat) (f g : Nat → Bool) : Prop where
  below : Below w0.heap.size w0 w
  c : RowAt w cb co N f
  n : RowAt w nb no N g
  cw : w0.heap.size ≤ cb
  nw : w0.heap.size ≤ nb
  cl : cb < w.heap.size
  nl : nb < w.heap.size
  apart : cb = nb → co + N ≤ no ∨ no + N ≤ co

theorem Two.swap {w0 w : World} {cb co nb no N : Nat} {f g : Nat → Bool} (h : Two w0 w cb co nb no N f g) : Two w0 w nb no cb co N g f :=
  ⟨h.below, h.n, h.c, h.nw, h.cw, h.nl, h.cl, fun e => (h.apart e.symm).symm⟩
theorem Two.set {w0 w : World} {cb co nb no N : Nat} {f g : Nat → Bool} (h : Two w0 w cb co nb no N f g) (i : Nat) (hi : i < N) (v : Bool) :
    Two w0 (w.setCell ⟨nb, no + i, none⟩ (.bool v)) cb co nb no N f (fun j => if j = i then v else g j) :=
  ⟨h.below.setCell h.nw _, h.c.other _ _ _ (fun e => by have := h.apart e.symm; omega), h.n.set i v, h.cw, h.nw, by simpa using h.cl, by simpa using h.nl, h.apart⟩
theorem Two.later {w0 w w' : World} {cb co nb no N : Nat} {f g : Nat → Bool} (h : Two w0 w cb co nb no N f g) (hb : Below w.heap.size w w') : Two w0 w' cb co nb no N f g :=
  ⟨h.below.trans (hb.mono h.below.size), h.c.later hb h.cl, h.n.later hb h.nl, h.cw, h.nw, Nat.lt_of_lt_of_le h.cl hb.size, Nat.lt_of_lt_of_le h.nl hb.size, h.apart⟩
theorem Two.congr {w0 w : World} {cb co nb no N : Nat} {f g f' g' : Nat → Bool} (h : Two w0 w cb co nb no N f g) (e : ∀ j, j < N → f j = f' j) (e' : ∀ j, j < N → g j = g' j) : Two w0 w cb co nb no N f' g' :=
  ⟨h.below, h.c.congr e, h.n.congr e', h.cw, h.nw, h.cl, h.nl, h.apart⟩
theorem Two.drew {w0 w : World} {cb co nb no N : Nat} {f g : Nat → Bool} (h : Two w0 w cb co nb no N f g) : Two w0 w.drew cb co nb no N f g :=
  ⟨h.below.drew, h.c, h.n, h.cw, h.nw, h.cl, h.nl, h.apart⟩

/-- The text's bytes as numbers. -/
def txt (s : ByteArray) (j : Nat) : Int := if h : j < s.size then (s[j].toNat : Int) else 0
theorem txt_eq (s : ByteArray) (j : Nat) (h : j < s.size) : txt s j = (s[j].toNat : Int) := by simp [txt, h]
end Go.Proofs.Qxb6617707a
