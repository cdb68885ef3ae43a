import Derived.Test.Qxb6617707aRowsAt
import Derived.Deep.Light
import Derived.Deep.CutBlock
import Derived.BigRegion
namespace Go.Proofs.Qxb6617707a
open Go.RowKit Go.Deep

def buf0 : Array Value := Array.replicate 256 (.bool false)
theorem info4 : (Try.prog.info? 4).map (fun i => (i.zero, i.size, i.bytes)) = some (some (.bool false), 1, 1) := by kernel_rfl
theorem zero41 (w : World) : Sem.run Try.prog (zeroValue 41) w = .ok (.agg buf0) w := by kernel_rfl

theorem rowAt_made (w : World) (N : Nat) : RowAt (w.alloc (.cells (madeCells #[.bool false] N) 4)) w.heap.size 0 N (fun _ => false) := by
  have h := World.rowIs_made w (.bool false) N 4
  intro j hj
  rw [Nat.zero_add]
  exact ⟨h.cell hj, h.frozen j⟩

theorem buf0_get (i : Nat) (hi : i < buf0.size) : buf0[i]? = some (.bool false) := by
  have hi' : i < 256 := by simpa [buf0] using hi
  simp [buf0, hi']

theorem rowAt_buf (w : World) (o N : Nat) (h : o + N ≤ 256) : RowAt (w.alloc (.cells buf0 41)) w.heap.size o N (fun _ => false) := by
  have h := World.rowIs_alloc w buf0 41 (fun _ => .bool false) (buf0_get)
  have hs : buf0.size = 256 := by simp [buf0]
  intro j hj
  exact ⟨h.cell (by omega), h.frozen _⟩

theorem two_made {w W : World} (hW : Below w.heap.size w W) (b N : Nat) (hb : b = W.heap.size) :
    Two w ((W.alloc (.cells (madeCells #[.bool false] N) 4)).alloc (.cells (madeCells #[.bool false] N) 4)) b 0 (b + 1) 0 N (fun _ => false) (fun _ => false) := by
  subst hb
  have e : (W.alloc (.cells (madeCells #[.bool false] N) 4)).heap.size = W.heap.size + 1 := by simp
  have h2 := rowAt_made (W.alloc (.cells (madeCells #[.bool false] N) 4)) N
  rw [e] at h2
  have hs := hW.size
  refine ⟨(hW.alloc hs _).alloc (by simp; omega) _, ?_, h2, hs, by omega, by simp; omega, by simp, by omega⟩
  exact (rowAt_made W N).later (Bd := W.heap.size + 1) ((Below.refl _ _).alloc (by simp) _) (by omega)

theorem two_buf (w : World) (N q : Nat) (hN : N ≤ 128) : Two w ((w.alloc (.cells buf0 41)).drewN q) w.heap.size 0 w.heap.size 128 N (fun _ => false) (fun _ => false) :=
  ⟨below_drewN ((Below.refl _ _).alloc (Nat.le_refl _) _) q, rowAt_buf w 0 N (by omega), rowAt_buf w 128 N (by omega), Nat.le_refl _, Nat.le_refl _, by simp, by simp, by omega⟩

theorem Two.drewN {w0 w : World} {cb co nb no N : Nat} {f g : Nat → Bool} (h : Two w0 w cb co nb no N f g) (q : Nat) : Two w0 (w.drewN q) cb co nb no N f g :=
  ⟨below_drewN h.below q, h.c, h.n, h.cw, h.nw, h.cl, h.nl, h.apart⟩

/-- What a round's inner loops stand on: the two rows, the token's box, its set. -/
structure Turn (w wx : World) (p cb co nb no N : Nat) (f g : Nat → Bool) (k b : Int) (sb so : Nat) (S : Nat → Bool) : Prop where
  two : Two w wx cb co nb no N f g
  box0 : wx.cell? ⟨p, 0, none⟩ = some (.int .u8 k)
  box1 : wx.cell? ⟨p, 1, none⟩ = some (.int .u8 b)
  box2 : wx.cell? ⟨p, 2, none⟩ = some (.pointer (some ⟨sb, so, none⟩))
  ne : nb ≠ p
  pl : p < wx.heap.size
  set : ∀ c, c < 256 → wx.cell? ⟨sb, so + c, none⟩ = some (.bool (S c))
  sl : sb < w.heap.size

theorem Turn.put {w wx : World} {p cb co nb no N : Nat} {f g : Nat → Bool} {k b : Int} {sb so : Nat} {S : Nat → Bool} (h : Turn w wx p cb co nb no N f g k b sb so S) (i : Nat) (hi : i < N) (v : Bool) :
    Turn w (wx.setCell ⟨nb, no + i, none⟩ (.bool v)) p cb co nb no N f (fun j => if j = i then v else g j) k b sb so S where
  two := h.two.set i hi v
  box0 := by rw [cell_other (by intro e; simp only [Addr.mk.injEq] at e; exact h.ne e.1)]; exact h.box0
  box1 := by rw [cell_other (by intro e; simp only [Addr.mk.injEq] at e; exact h.ne e.1)]; exact h.box1
  box2 := by rw [cell_other (by intro e; simp only [Addr.mk.injEq] at e; exact h.ne e.1)]; exact h.box2
  ne := h.ne
  pl := by simpa using h.pl
  set := fun c hc => by
    rw [cell_other (by intro e; simp only [Addr.mk.injEq] at e; have h1 := h.two.nw; have h2 := h.sl; omega)]
    exact h.set c hc
  sl := h.sl

theorem Turn.later {w wx w' : World} {p cb co nb no N : Nat} {f g : Nat → Bool} {k b : Int} {sb so : Nat} {S : Nat → Bool} (h : Turn w wx p cb co nb no N f g k b sb so S) (hb : Below wx.heap.size wx w') :
    Turn w w' p cb co nb no N f g k b sb so S where
  two := h.two.later hb
  box0 := (hb.cell (p := ⟨p, 0, none⟩) h.pl).trans h.box0
  box1 := (hb.cell (p := ⟨p, 1, none⟩) h.pl).trans h.box1
  box2 := (hb.cell (p := ⟨p, 2, none⟩) h.pl).trans h.box2
  ne := h.ne
  pl := Nat.lt_of_lt_of_le h.pl hb.size
  set := fun c hc => (hb.cell (p := ⟨sb, so + c, none⟩) (Nat.lt_of_lt_of_le h.sl h.two.below.size)).trans (h.set c hc)
  sl := h.sl

theorem Turn.start {w wq : World} {cb co nb no N : Nat} {f g : Nat → Bool} {k b : Int} {sb so : Nat} {S : Nat → Bool} (h : Two w wq cb co nb no N f g) (hs : ∀ c, c < 256 → wq.cell? ⟨sb, so + c, none⟩ = some (.bool (S c))) (hl : sb < w.heap.size) :
    Turn w (wq.alloc (.cells #[.int .u8 k, .int .u8 b, .pointer (some ⟨sb, so, none⟩)] 38)) wq.heap.size cb co nb no N f g k b sb so S where
  two := h.later ((Below.refl _ _).alloc (Nat.le_refl _) _)
  box0 := by simp [go_sem]
  box1 := by simp [go_sem]
  box2 := by simp [go_sem]
  ne := by have := h.nl; omega
  pl := by simp
  set := fun c hc => (((Below.refl wq.heap.size wq).alloc (Nat.le_refl _) _).cell (p := ⟨sb, so + c, none⟩) (Nat.lt_of_lt_of_le hl h.below.size)).trans (hs c hc)
  sl := hl

theorem star_next {any : Bool} {T : Nat → Int} {cur f : Nat → Bool} {q : Nat} {v : Bool} (hf : ∀ x, x ≤ q → f x = starRow any T cur x) (hv : v = (cur (q + 1) || (f q && (any || T q != 47)))) :
    ∀ x, x ≤ q + 1 → (if x = q + 1 then v else f x) = starRow any T cur x := by
  intro x hx
  by_cases e : x = q + 1
  · subst e
    rw [if_pos rfl, hv, hf q (Nat.le_refl _)]
    rfl
  · rw [if_neg e]
    exact hf x (by omega)

theorem dirs_next {T : Nat → Int} {cur f : Nat → Bool} {q : Nat} {v : Bool} (hf : ∀ x, x ≤ q → f x = dirsRow T cur x) (hv : v = (cur (q + 1) || (reach cur (q + 1) && T q == 47))) :
    ∀ x, x ≤ q + 1 → (if x = q + 1 then v else f x) = dirsRow T cur x := by
  intro x hx
  by_cases e : x = q + 1
  · subst e
    rw [if_pos rfl, hv]
    rfl
  · rw [if_neg e]
    exact hf x (by omega)

theorem one_next {k b : Int} {S : Nat → Bool} {T : Nat → Int} {cur f : Nat → Bool} {q : Nat} {v : Bool} (hf : ∀ x, x ≤ q → f x = oneRow k b S T cur x) (hv : v = (cur q && takesB k b S (T q))) :
    ∀ x, x ≤ q + 1 → (if x = q + 1 then v else f x) = oneRow k b S T cur x := by
  intro x hx
  by_cases e : x = q + 1
  · subst e
    rw [if_pos rfl, hv]
    rfl
  · rw [if_neg e]
    exact hf x (by omega)

set_option maxRecDepth 100000 in
set_option maxHeartbeats 1000000 in
theorem match_any (Bd tb n tc : Nat) (s : ByteArray) (K B : Nat → Int) (S : Nat → Nat → Bool) (w : World) (hs : s.size ≤ 512) (hn : n ≤ 512)
    (ht : Toks w Bd tb n K B S) (htb : tb < w.heap.size) (hBd : Bd ≤ w.heap.size) (hK : ∀ i, i < n → 0 ≤ K i ∧ K i ≤ 5) :
    Calls Try.prog 12 #[.slice (some ⟨tb, 0, none⟩) n tc, .string s] w fun e w' => e = .returned (.bool (dp K B S (txt s) n s.size)) ∧ Below w.heap.size w w' := by
  have HT : Hid (Toks w Bd tb n K B S) := ht
  have HK : Hid (∀ i, i < n → 0 ≤ K i ∧ K i ≤ 5) := hK
  clear ht hK
  have hz := zero41
  have hmk := fun w => run_make_row' (P := Try.prog) 42 4 (.bool false) 1 Try.underlying42 info4 rfl .i64 .i64 (s.size + 1) (by omega) (by omega) w
  rw [show (((s.size + 1 : Nat) : Int)) = (s.size : Int) + 1 from by omega] at hmk
  go_enter Try.func12, Try.ntmps12
  go_wp2
  go_quiet (fail)
  go_upto_if 26 with (fail)
  go_cut [7, 8] (fun c d wc => ∃ cb co nb no l cp, c = .slice (some ⟨cb, co, none⟩) l cp ∧ d = .slice (some ⟨nb, no, none⟩) l cp ∧ s.size + 1 ≤ cp ∧ cp ≤ 1000 ∧ l ≤ cp ∧ Two w wc cb co nb no (s.size + 1) (fun _ => false) (fun _ => false))
  case first =>
    go_wp2
    · go_region
      all_goals
        go_wp2_with fail
        go_meet
        case rel =>
          go_light
          first
          | exact ⟨_, _, _, _, _, _, rfl, rfl, Nat.le_refl _, by omega, Nat.le_refl _, two_made (below_drewN ((Below.refl _ _).alloc (Nat.le_refl _) _) _) (w.heap.size + 1) _ (by simp)⟩
          | exact ⟨_, _, _, _, _, _, rfl, rfl, Nat.le_refl _, by omega, Nat.le_refl _, (two_made (below_drewN ((Below.refl _ _).alloc (Nat.le_refl _) _) _) (w.heap.size + 1) _ (by simp)).swap⟩
    · go_meet
      case rel =>
        go_light
        exact ⟨_, _, _, _, _, _, rfl, rfl, by omega, by omega, Nat.le_refl _, two_buf w _ _ (by omega)⟩
  case rest =>
    obtain ⟨cb, co, nb, no, l, cp, rfl, rfl, h1, h2, h3, hTwo⟩ := hcut
    have H2 : Hid (Two w wc cb co nb no (s.size + 1) (fun _ => false) (fun _ => false)) := hTwo
    clear hTwo hmk hz
    go_wp2
    go_quiet (fail)
    have c0 : ∀ q, (wc.drewN q).cell? ⟨cb, co, none⟩ = some (.bool false) := fun q => (H2.out.c 0 (by omega)).1
    have f0 : ∀ q, (wc.drewN q).frozen? ⟨cb, co, none⟩ = false := fun q => (H2.out.c 0 (by omega)).2
    go_wp2
    go_loopg [7, 8, 41] n (fun gk c d i wr => ∃ k cb co nb no g, gk = n - k ∧ k ≤ n ∧ i = .int .i64 (k : Nat) ∧ c = .slice (some ⟨cb, co, none⟩) (s.size + 1) cp ∧ d = .slice (some ⟨nb, no, none⟩) (s.size + 1) cp ∧ Two w wr cb co nb no (s.size + 1) (dp K B S (txt s) k) g)
    case atStart =>
      go_light
      refine ⟨0, cb, co, nb, no, _, rfl, Nat.zero_le _, rfl, rfl, rfl, (((H2.out.drewN nq).swap.set 0 (by omega) true).swap).congr (fun j _ => ?_) (fun _ _ => rfl)⟩
      by_cases e : j = 0 <;> simp [dp, e]
    case round =>
      clear c0 f0 H2
      obtain ⟨k, cb, co, nb, no, g, Hk, hk, rfl, rfl, rfl, hTwo⟩ := hrel
      rename World => wq
      have H2 : Hid (Two w wq cb co nb no (s.size + 1) (dp K B S (txt s) k) g) := hTwo
      have HK2 : Hid (gk = n - k) := Hk
      clear hTwo Hk
      by_cases hlt : k < n
      · obtain ⟨t0, t1, sb, so, hsb, t2, hsc⟩ := HT.out k hlt
        obtain ⟨hK0, hK5⟩ := HK.out k hlt
        have e3 : 3 * k = k * 3 := Nat.mul_comm _ _
        rw [e3] at t0 t1 t2
        have t0' := (H2.out.below.cell (p := ⟨tb, k * 3, none⟩) htb).trans t0
        have t1' := (H2.out.below.cell (p := ⟨tb, k * 3 + 1, none⟩) htb).trans t1
        have t2' := (H2.out.below.cell (p := ⟨tb, k * 3 + 2, none⟩) htb).trans t2
        have HS : Hid (∀ c, c < 256 → wq.cell? ⟨sb, so + c, none⟩ = some (.bool (S k c))) := fun c hc => (H2.out.below.cell (p := ⟨sb, so + c, none⟩) (Nat.lt_of_lt_of_le hsb hBd)).trans (hsc c hc)
        clear t0 t1 t2 e3 hsc
        go_upto_block 2 with (fail)
        have HA : Hid (Turn w (wq.alloc (.cells #[.int .u8 (K k), .int .u8 (B k), .pointer (some ⟨sb, so, none⟩)] 38)) wq.heap.size cb co nb no (s.size + 1) (dp K B S (txt s) k) g (K k) (B k) sb so (S k)) := Turn.start H2.out HS.out (Nat.lt_of_lt_of_le hsb hBd)
        go_cut [] (fun wx => Two w wx cb co nb no (s.size + 1) (dp K B S (txt s) k) (dp K B S (txt s) (k + 1)))
        case first =>
          clear t0' t1' t2' H2
          by_cases hK3 : K k = 3
          · have ek : (K k == 3) = true := by simp [hK3]
            have e4 : (K k == 4) = false := by simp [hK3]
            have HD : Hid (dp K B S (txt s) (k + 1) = starRow false (txt s) (dp K B S (txt s) k)) := by
              show stepRow (K k) (B k) (S k) (txt s) (dp K B S (txt s) k) = _
              unfold stepRow
              rw [if_pos hK3]
            have c0 := (HA.out.two.c 0 (by omega)).1
            have n0 := (HA.out.two.n 0 (by omega)).1
            have m0 := (HA.out.two.n 0 (by omega)).2
            rw [Nat.add_zero] at c0 n0 m0
            clear hK3 hK0 hK5
            go_wp2
            go_loopg [12] (s.size + 1) (fun gj jv wx => ∃ q : Nat, ∃ f, gj = s.size + 1 - q ∧ q ≤ s.size ∧ jv = .int .i64 ((q : Int) + 1) ∧ Turn w wx wq.heap.size cb co nb no (s.size + 1) (dp K B S (txt s) k) f (K k) (B k) sb so (S k) ∧ (∀ x, x ≤ q → f x = starRow false (txt s) (dp K B S (txt s) k) x))
            case atStart =>
              go_light
              refine ⟨0, _, rfl, Nat.zero_le _, rfl, HA.out.put 0 (by omega) _, fun x hx => ?_⟩
              obtain rfl : x = 0 := by omega
              simp [starRow]
            case round =>
              obtain ⟨q, f, Hq, hq, rfl, hTurn, hf⟩ := hrel
              have HX : Hid (Turn w wr wq.heap.size cb co nb no (s.size + 1) (dp K B S (txt s) k) f (K k) (B k) sb so (S k) ∧ (∀ x, x ≤ q → f x = starRow false (txt s) (dp K B S (txt s) k) x) ∧ gk = s.size + 1 - q) := ⟨hTurn, hf, Hq⟩
              clear hTurn hf Hq c0 n0 m0
              by_cases hlt2 : q < s.size
              · have x0 := (HX.out.1.two.c (q + 1) (by omega)).1
                have x1 := (HX.out.1.two.n q (by omega)).1
                have x2 := (HX.out.1.two.n (q + 1) (by omega)).1
                have x3 := (HX.out.1.two.n (q + 1) (by omega)).2
                have x4 := HX.out.1.box0
                go_wp2
                all_goals
                  go_roundg (s.size - q)
                  case measure => go_light; rw [HX.out.2.2]; omega
                  case rel =>
                    go_light
                    refine ⟨q + 1, _, by omega, by omega, by go_num, HX.out.1.put (q + 1) (by omega) _, star_next HX.out.2.1 ?_⟩
                    rw [txt_eq s q hlt2]
                    simp [*]
              · have HQ : Hid (q = s.size) := by show q = s.size; omega
                go_wp2
                go_meet
                case rel =>
                  go_light
                  refine HX.out.1.two.congr (fun _ _ => rfl) (fun x hx => ?_)
                  rw [HD.out]
                  exact HX.out.2.1 x (by have := HQ.out; omega)
          · by_cases hK4 : K k = 4
            · have ek : (K k == 3) = false := by simp [hK4]
              have e4 : (K k == 4) = true := by simp [hK4]
              have HD : Hid (dp K B S (txt s) (k + 1) = starRow true (txt s) (dp K B S (txt s) k)) := by
                show stepRow (K k) (B k) (S k) (txt s) (dp K B S (txt s) k) = _
                unfold stepRow
                rw [if_neg hK3, if_pos hK4]
              have c0 := (HA.out.two.c 0 (by omega)).1
              have n0 := (HA.out.two.n 0 (by omega)).1
              have m0 := (HA.out.two.n 0 (by omega)).2
              rw [Nat.add_zero] at c0 n0 m0
              clear hK3 hK4 hK0 hK5
              go_wp2
              go_loopg [12] (s.size + 1) (fun gj jv wx => ∃ q : Nat, ∃ f, gj = s.size + 1 - q ∧ q ≤ s.size ∧ jv = .int .i64 ((q : Int) + 1) ∧ Turn w wx wq.heap.size cb co nb no (s.size + 1) (dp K B S (txt s) k) f (K k) (B k) sb so (S k) ∧ (∀ x, x ≤ q → f x = starRow true (txt s) (dp K B S (txt s) k) x))
              case atStart =>
                go_light
                refine ⟨0, _, rfl, Nat.zero_le _, rfl, HA.out.put 0 (by omega) _, fun x hx => ?_⟩
                obtain rfl : x = 0 := by omega
                simp [starRow]
              case round =>
                obtain ⟨q, f, Hq, hq, rfl, hTurn, hf⟩ := hrel
                have HX : Hid (Turn w wr wq.heap.size cb co nb no (s.size + 1) (dp K B S (txt s) k) f (K k) (B k) sb so (S k) ∧ (∀ x, x ≤ q → f x = starRow true (txt s) (dp K B S (txt s) k) x) ∧ gk = s.size + 1 - q) := ⟨hTurn, hf, Hq⟩
                clear hTurn hf Hq c0 n0 m0
                by_cases hlt2 : q < s.size
                · have x0 := (HX.out.1.two.c (q + 1) (by omega)).1
                  have x1 := (HX.out.1.two.n q (by omega)).1
                  have x2 := (HX.out.1.two.n (q + 1) (by omega)).1
                  have x3 := (HX.out.1.two.n (q + 1) (by omega)).2
                  have x4 := HX.out.1.box0
                  go_wp2
                  all_goals
                    go_roundg (s.size - q)
                    case measure => go_light; rw [HX.out.2.2]; omega
                    case rel =>
                      go_light
                      refine ⟨q + 1, _, by omega, by omega, by go_num, HX.out.1.put (q + 1) (by omega) _, star_next HX.out.2.1 ?_⟩
                      rw [txt_eq s q hlt2]
                      simp [*]
                · have HQ : Hid (q = s.size) := by show q = s.size; omega
                  go_wp2
                  go_meet
                  case rel =>
                    go_light
                    refine HX.out.1.two.congr (fun _ _ => rfl) (fun x hx => ?_)
                    rw [HD.out]
                    exact HX.out.2.1 x (by have := HQ.out; omega)
            · by_cases hK5' : K k = 5
              · have ek : (K k == 3) = false := by simp [hK5']
                have e4 : (K k == 4) = false := by simp [hK5']
                have e5 : (K k == 5) = true := by simp [hK5']
                have HD : Hid (dp K B S (txt s) (k + 1) = dirsRow (txt s) (dp K B S (txt s) k)) := by
                  show stepRow (K k) (B k) (S k) (txt s) (dp K B S (txt s) k) = _
                  unfold stepRow
                  rw [if_neg hK3, if_neg hK4, if_pos hK5']
                have c0 := (HA.out.two.c 0 (by omega)).1
                have n0 := (HA.out.two.n 0 (by omega)).1
                have m0 := (HA.out.two.n 0 (by omega)).2
                rw [Nat.add_zero] at c0 n0 m0
                clear hK3 hK4 hK5' hK0 hK5
                go_wp2
                go_loopg [13, 14] (s.size + 1) (fun gj rv jv wx => ∃ q : Nat, ∃ f, gj = s.size + 1 - q ∧ q ≤ s.size ∧ rv = .bool (reach (dp K B S (txt s) k) q) ∧ jv = .int .i64 ((q : Int) + 1) ∧ Turn w wx wq.heap.size cb co nb no (s.size + 1) (dp K B S (txt s) k) f (K k) (B k) sb so (S k) ∧ (∀ x, x ≤ q → f x = dirsRow (txt s) (dp K B S (txt s) k) x))
                case atStart =>
                  go_light
                  refine ⟨0, _, rfl, Nat.zero_le _, rfl, rfl, HA.out.put 0 (by omega) _, fun x hx => ?_⟩
                  obtain rfl : x = 0 := by omega
                  simp [dirsRow]
                case round =>
                  obtain ⟨q, f, Hq, hq, rfl, rfl, hTurn, hf⟩ := hrel
                  have HX : Hid (Turn w wr wq.heap.size cb co nb no (s.size + 1) (dp K B S (txt s) k) f (K k) (B k) sb so (S k) ∧ (∀ x, x ≤ q → f x = dirsRow (txt s) (dp K B S (txt s) k) x) ∧ gk = s.size + 1 - q) := ⟨hTurn, hf, Hq⟩
                  clear hTurn hf Hq c0 n0 m0
                  by_cases hlt2 : q < s.size
                  · have x0 := (HX.out.1.two.c (q + 1) (by omega)).1
                    have x1 := (HX.out.1.two.c q (by omega)).1
                    have x2 := (HX.out.1.two.n (q + 1) (by omega)).1
                    have x3 := (HX.out.1.two.n (q + 1) (by omega)).2
                    have HR : Hid (reach (dp K B S (txt s) k) (q + 1) = (reach (dp K B S (txt s) k) q || dp K B S (txt s) k q)) := rfl
                    go_wp2
                    all_goals
                      go_roundg (s.size - q)
                      case measure => go_light; rw [HX.out.2.2]; omega
                      case rel =>
                        go_light
                        refine ⟨q + 1, _, by omega, by omega, by rw [HR.out]; simp [*], by go_num, HX.out.1.put (q + 1) (by omega) _, dirs_next HX.out.2.1 ?_⟩
                        rw [HR.out, txt_eq s q hlt2]
                        simp [*]
                  · have HQ : Hid (q = s.size) := by show q = s.size; omega
                    go_wp2
                    go_meet
                    case rel =>
                      go_light
                      refine HX.out.1.two.congr (fun _ _ => rfl) (fun x hx => ?_)
                      rw [HD.out]
                      exact HX.out.2.1 x (by have := HQ.out; omega)
              · have ek : (K k == 3) = false := by simp [hK3]
                have e4 : (K k == 4) = false := by simp [hK4]
                have e5 : (K k == 5) = false := by simp [hK5']
                have HD : Hid (dp K B S (txt s) (k + 1) = oneRow (K k) (B k) (S k) (txt s) (dp K B S (txt s) k)) := by
                  show stepRow (K k) (B k) (S k) (txt s) (dp K B S (txt s) k) = _
                  unfold stepRow
                  rw [if_neg hK3, if_neg hK4, if_neg hK5']
                have n0 := (HA.out.two.n 0 (by omega)).1
                have m0 := (HA.out.two.n 0 (by omega)).2
                rw [Nat.add_zero] at n0 m0
                clear hK3 hK4 hK5' hK0 hK5
                go_wp2
                go_loopg [15] (s.size + 1) (fun gj jv wx => ∃ q : Nat, ∃ f, gj = s.size + 1 - q ∧ q ≤ s.size ∧ jv = .int .i64 ((q : Int) + 1) ∧ Turn w wx wq.heap.size cb co nb no (s.size + 1) (dp K B S (txt s) k) f (K k) (B k) sb so (S k) ∧ (∀ x, x ≤ q → f x = oneRow (K k) (B k) (S k) (txt s) (dp K B S (txt s) k) x))
                case atStart =>
                  go_light
                  refine ⟨0, _, rfl, Nat.zero_le _, rfl, HA.out.put 0 (by omega) _, fun x hx => ?_⟩
                  obtain rfl : x = 0 := by omega
                  simp [oneRow]
                case round =>
                  obtain ⟨q, f, Hq, hq, rfl, hTurn, hf⟩ := hrel
                  have HX : Hid (Turn w wr wq.heap.size cb co nb no (s.size + 1) (dp K B S (txt s) k) f (K k) (B k) sb so (S k) ∧ (∀ x, x ≤ q → f x = oneRow (K k) (B k) (S k) (txt s) (dp K B S (txt s) k) x) ∧ gk = s.size + 1 - q) := ⟨hTurn, hf, Hq⟩
                  clear hTurn hf Hq n0 m0
                  by_cases hlt2 : q < s.size
                  · have x0 := (HX.out.1.two.c q (by omega)).1
                    have x2 := (HX.out.1.two.n (q + 1) (by omega)).1
                    have x3 := (HX.out.1.two.n (q + 1) (by omega)).2
                    have x4 := HX.out.1.box0
                    have x5 := HX.out.1.box1
                    have x6 := HX.out.1.box2
                    have hw2 : (q : Int) < (s.size : Int) + 1 := by omega
                    have hw3 : (q : Int) < (s.size : Int) := by omega
                    have hw4 : (q : Int) + 1 < (s.size : Int) + 1 := by omega
                    cases hcq : dp K B S (txt s) k q with
                    | false =>
                      rw [hcq] at x0
                      have HC : Hid (dp K B S (txt s) k q = false) := hcq
                      clear hcq
                      go_wp2
                      go_big_region
                      all_goals
                        go_wp2
                        go_roundg (s.size - q)
                        case measure => go_light; rw [HX.out.2.2]; omega
                        case rel =>
                          go_light
                          exact ⟨q + 1, _, by omega, by omega, by go_num, (HX.out.1.put (q + 1) (by omega) false).later (Below.refl _ _).drew, one_next HX.out.2.1 (by rw [HC.out]; rfl)⟩
                    | true =>
                      rw [hcq] at x0
                      have HC : Hid (dp K B S (txt s) k q = true) := hcq
                      clear hcq
                      go_wp2
                      have hw1 : IntKind.i64.wrap (q : Int) = (q : Int) := by rw [IntKind.wrap_i64]; omega
                      go_region_with (go_at_call 14; refine (takes_any _ _ _ sb so (S k) _ (by omega) (by have := UInt8.toNat_lt s[q]; omega) ?_ ?_).mono ?_; (exact Nat.lt_of_lt_of_le HX.out.1.sl HX.out.1.two.below.size); (exact HX.out.1.set); rintro e w1 ⟨rfl, hb1⟩; have hb2 : Hid (Below wr.heap.size wr w1) := below_undrew hb1; clear hb1; have y2 := ((HX.out.1.later hb2.out).two.n (q + 1) (by omega)).1; have y3 := ((HX.out.1.later hb2.out).two.n (q + 1) (by omega)).2)
                      all_goals
                        go_wp2
                        go_roundg (s.size - q)
                        case measure => go_light; rw [HX.out.2.2]; omega
                        case rel =>
                          go_light
                          exact ⟨q + 1, _, by omega, by omega, by go_num, (HX.out.1.later hb2.out).put (q + 1) (by omega) _, one_next HX.out.2.1 (by rw [HC.out, txt_eq s q hlt2]; rfl)⟩
                  · have HQ : Hid (q = s.size) := by show q = s.size; omega
                    go_wp2
                    go_meet
                    case rel =>
                      go_light
                      refine HX.out.1.two.congr (fun _ _ => rfl) (fun x hx => ?_)
                      rw [HD.out]
                      exact HX.out.2.1 x (by have := HQ.out; omega)
        case rest =>
          have H3 : Hid (Two w wc cb co nb no (s.size + 1) (dp K B S (txt s) k) (dp K B S (txt s) (k + 1))) := hcut
          clear hcut
          go_wp2
          go_loopg [11, 148] (s.size + 2) (fun gj al iv wx => ∃ j : Nat, gj = s.size + 2 - j ∧ j ≤ s.size + 1 ∧ iv = .int .i64 j ∧ al = .bool (reach (dp K B S (txt s) (k + 1)) j) ∧ wc = wx)
          case atStart => exact ⟨0, rfl, Nat.zero_le _, rfl, rfl, rfl⟩
          case round =>
            obtain ⟨j, Hj, hj, rfl, rfl, rfl⟩ := hrel
            have HJ : Hid (gk = s.size + 2 - j) := Hj
            clear Hj
            by_cases hlt3 : j < s.size + 1
            · have z0 := (H3.out.n j hlt3).1
              go_wp2
              all_goals
                go_roundg (s.size + 1 - j)
                case measure => go_light; rw [HJ.out]; omega
                case rel =>
                  go_light
                  exact ⟨j + 1, by omega, by omega, by go_num, by simp [reach, *], rfl⟩
            · obtain rfl : j = s.size + 1 := by omega
              cases hr : reach (dp K B S (txt s) (k + 1)) (s.size + 1) with
              | true =>
                have HR : Hid (reach (dp K B S (txt s) (k + 1)) (s.size + 1) = true) := hr
                go_wp2
                go_roundg (n - (k + 1))
                case measure => go_light; rw [HK2.out]; omega
                case rel =>
                  go_light
                  exact ⟨k + 1, nb, no, cb, co, _, rfl, by omega, by go_num, rfl, rfl, H3.out.swap⟩
              | false =>
                have HR : Hid (dp K B S (txt s) n s.size = false) := by
                  have hd := dp_dead s.size K B S (txt s) (k + 1) (n - (k + 1)) (fun j hj => by
                    rw [Bool.eq_false_iff]
                    intro h
                    have := (reach_iff _ _).2 ⟨j, Nat.lt_succ_of_le hj, h⟩
                    rw [hr] at this
                    cases this)
                  have e : k + 1 + (n - (k + 1)) = n := by omega
                  rw [e] at hd
                  exact hd s.size (Nat.le_refl _)
                go_wp2
                go_ret
                exact ⟨by rw [HR.out]; rfl, H3.out.below⟩
      · have cl := (H2.out.c s.size (by omega)).1
        have HE : Hid (k = n) := by show k = n; omega
        go_wp2
        go_ret
        exact ⟨by rw [← HE.out]; rfl, H2.out.below⟩
end Go.Proofs.Qxb6617707a
