import Derived.Test.Qxb6613152aBoth
namespace Go.Proofs.Qxb6613152a.Wk
open Go.RowKit Qfr

theorem WK.start2 {w wc w1 wr : World} {a : Option Addr} {n : Nat} {m : Int} {f : Nat → Int} (hc : Below w.heap.size w wc) (ho : OW wc w1 a n f) (hfr : Fr (fun j => j = w1.heap.size) (w1.alloc (.cells (madeCells #[.bool false] n) 4)) wr) :
    WK w (wr.alloc (.cells (wkc a n m) 51)) wr.heap.size a n m 0 f := by
  have s0 := hc.size
  have s1 := ho.bel.size
  have s2 := hfr.size
  rw [World.size_alloc] at s2
  have hg := heap_alloc_new wr (.cells (wkc a n m) 51)
  have b1 : Below w.heap.size w (w1.alloc (.cells (madeCells #[.bool false] n) 4)) := (hc.trans (ho.bel.mono s0)).alloc (by omega) _
  have b2 : Below w.heap.size w wr := hfr.below b1 (fun k hk => by omega)
  refine ⟨b2.alloc (by omega) _, by simp; omega, by omega, by simp, ?_, ?_, ?_, ?_, fun x => ?_, fun i hi => ?_⟩
  · rw [cell_of_row _ _ _ _ _ _ hg]; rfl
  · rw [cell_of_row _ _ _ _ _ _ hg]; rfl
  · rw [cell_of_row _ _ _ _ _ _ hg]; rfl
  · rw [cell_of_row _ _ _ _ _ _ hg]; rfl
  · unfold World.frozen?
    simp only [hg]
    simp
  · obtain ⟨g, ha, hcg, hfg⟩ := ho.row i hi
    obtain ⟨n0, n1⟩ := ho.new _ ha
    have n1' : g < w1.heap.size := n1
    have n0' : wc.heap.size ≤ g := n0
    have c1 := cell1 hcg (.cells (madeCells #[.bool false] n) 4)
    have c2 := hfr.cell c1 (Nat.ne_of_lt n1')
    refine ⟨g, ha, by omega, by omega, cell1 c2 _, ?_⟩
    have f1 : (w1.alloc (.cells (madeCells #[.bool false] n) 4)).frozen? ⟨g, i, none⟩ = w1.frozen? ⟨g, i, none⟩ := ((Below.refl _ w1).alloc (Nat.le_refl _) (.cells (madeCells #[.bool false] n) 4)).frozen (p := ⟨g, i, none⟩) n1'
    have f2 : wr.frozen? ⟨g, i, none⟩ = _ := hfr.free (p := ⟨g, i, none⟩) (by rw [World.size_alloc]; show g < _; omega) (Nat.ne_of_lt n1')
    have f3 : (wr.alloc (.cells (wkc a n m) 51)).frozen? ⟨g, i, none⟩ = wr.frozen? ⟨g, i, none⟩ := ((Below.refl _ wr).alloc (Nat.le_refl _) (.cells (wkc a n m) 51)).frozen (p := ⟨g, i, none⟩) (by show g < _; omega)
    rw [f3, f2, f1, hfg]

/-- a row that lies ahead of all that the walk has made since wc -/
def Far (wc W : World) (b : Option Addr) (l : Nat) (p : Nat → Int) : Prop := RW W b l p ∧ ∀ x, b = some x → 0 < l → x.block < wc.heap.size

theorem Far.of {wc w1 : World} {b : Option Addr} {l : Nat} {p : Nat → Int} (h : RW wc b l p) (hb : Below wc.heap.size wc w1) : Far wc w1 b l p :=
  ⟨h.keep hb, fun x hx h0 => by
    obtain ⟨b', off, hb2, hlt, _⟩ := h 0 h0
    rw [hx] at hb2
    injection hb2 with e
    subst e
    exact hlt⟩
theorem Far.frame {wc W W' : World} {S : Nat → Prop} {b : Option Addr} {l : Nat} {p : Nat → Int} (h : Far wc W b l p) (hf : Fr S W W') (hS : ∀ k, S k → wc.heap.size ≤ k) : Far wc W' b l p :=
  ⟨h.1.frame hf (fun x hx h0 hs => by
    have := h.2 x hx h0
    have := hS _ hs
    omega), h.2⟩
theorem Far.one {wc W : World} {b : Option Addr} {l : Nat} {p : Nat → Int} (h : Far wc W b l p) (o : Obj) : Far wc (W.alloc o) b l p := ⟨h.1.keep ((Below.refl _ _).alloc (Nat.le_refl _) _), h.2⟩

theorem own_lo {wc w1 wr : World} {a : Option Addr} {n : Nat} {f : Nat → Int} (ho : OW wc w1 a n f) (h : wc.heap.size ≤ wr.heap.size) : ∀ k, Own wr.heap.size a k → wc.heap.size ≤ k := by
  rintro k (rfl | ⟨x, hx, rfl⟩)
  · exact h
  · exact (ho.new x hx).1
theorem Far.sep {wc w1 wr W : World} {a b : Option Addr} {n l : Nat} {f p : Nat → Int} (h : Far wc W b l p) (ho : OW wc w1 a n f) (hs : wc.heap.size ≤ wr.heap.size) : ∀ x, b = some x → 0 < l → ¬ Own wr.heap.size a x.block := fun x hx h0 hO => by
  have := h.2 x hx h0
  have := own_lo ho hs _ hO
  omega

/-- what the last two loops read -/
structure FJ (w wr : World) (B : Nat) (a : Option Addr) (n G : Nat) (D : Nat → Bool) (mk vs : Int) (h : Nat → Int) : Prop where
  wk : WK w wr B a n mk vs h
  eq : ∀ q : Nat, q < n → (h q == mk) = D q
  cells : ∀ q : Nat, q < n → wr.cell? ⟨G, q, none⟩ = some (.bool (D q))
theorem FJ.drewN {w wr : World} {B : Nat} {a : Option Addr} {n G : Nat} {D : Nat → Bool} {mk vs : Int} {h : Nat → Int} (x : FJ w wr B a n G D mk vs h) (m : Nat) : FJ w (wr.drewN m) B a n G D mk vs h := ⟨x.wk.drewN m, x.eq, x.cells⟩
theorem FJ.hid {w wr : World} {B : Nat} {a : Option Addr} {n G : Nat} {D : Nat → Bool} {mk vs : Int} {h : Nat → Int} (x : FJ w wr B a n G D mk vs h) : Hid (FJ w wr B a n G D mk vs h) := x
theorem marked_is {w wr : World} {B : Nat} {a : Option Addr} {n : Nat} {mk vs : Int} {h : Nat → Int} (x : WK w wr B a n mk vs h) {q : Nat} (hq : q < n) {bq : Bool} (hb : (h q == mk) = bq) (m : Nat) :
    Calls Try.prog 11 #[.pointer (some ⟨B, 0, none⟩), .int .u32 (q : Int)] (wr.drewN m) fun e w' => e = .returned (.bool bq) ∧ ∃ m', w' = wr.drewN m' := by
  refine (marked11 (x.drewN m) hq).mono ?_
  rintro e w' ⟨he, m', hw⟩
  rw [hb] at he
  exact ⟨he, m + m', by rw [hw, drewN2]⟩

/-- the answer that is wanted -/
def DD (l l3 : Nat) (p p3 : Nat → Int) (q : Nat) : Bool := decide (∃ j, j < l ∧ p j = (q : Int)) || decide (∃ j, j < l3 ∧ p3 j = (q : Int))

theorem RW.pos {w : World} {a : Option Addr} {n : Nat} {f : Nat → Int} (h : RW w a n f) : ∀ j, j < n → 0 ≤ f j := fun j hj => by
  obtain ⟨_, _, _, _, _, h0, _⟩ := h j hj
  exact h0
end Go.Proofs.Qxb6613152a.Wk
