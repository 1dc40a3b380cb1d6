import Derived.Test.Qxb6613106aTr
namespace Go.Proofs.Qxb6613106a.Tm
open Go.RowKit Qfr

theorem mk59n (n : Nat) (h : n ≤ 1000000) (w : World) :
    (Instr.makeSlice 59 (.int .i64 (n : Int)) (.int .i64 (n : Int))).run Try.prog w = .ok (.slice (some ⟨w.heap.size, 0, none⟩) n n) (w.alloc (.cells (madeCells ev0 (n * 5)) 61)) := by
  obtain ⟨i0, hi, hz0, hz1, hz2⟩ := info_parts info61
  have := run_make (P := Try.prog) w 59 61 i0 (.agg ev0) Try.underlying59 hi hz0 .i64 .i64 (n : Int) (n : Int) (by omega) (by omega) (by rw [hz2]; omega) (by omega)
  rw [hz1] at this
  have e : (n : Int).toNat = n := by omega
  rw [e] at this
  exact this

/-- the zero time in a block -/
structure TZ (w : World) (b : Nat) : Prop where
  c0 : w.cell? ⟨b, 0, none⟩ = some (.int .u64 0)
  c1 : w.cell? ⟨b, 1, none⟩ = some (.int .i64 0)
  c2 : w.cell? ⟨b, 2, none⟩ = some (.pointer none)
theorem TZ.keep {wa wb : World} {b : Nat} (h : TZ wa b) (hb : Below wa.heap.size wa wb) : TZ wb b := ⟨below_keeps hb h.c0, below_keeps hb h.c1, below_keeps hb h.c2⟩

/-- event number j of the row at E, received at d -/
structure TE (w : World) (E j : Nat) (d : Int) : Prop where
  c0 : w.cell? ⟨E, j * 5 + 2, none⟩ = some (.int .u64 (d % 1000000000))
  c1 : w.cell? ⟨E, j * 5 + 2 + 1, none⟩ = some (.int .i64 (d / 1000000000))
  c2 : w.cell? ⟨E, j * 5 + 2 + 1 + 1, none⟩ = some (.pointer none)
theorem TE.keep {wa wb : World} {b j : Nat} {d : Int} (h : TE wa b j d) (hb : Below wa.heap.size wa wb) : TE wb b j d := ⟨below_keeps hb h.c0, below_keeps hb h.c1, below_keeps hb h.c2⟩

/-- what the second loop keeps -/
structure H2 (w W : World) (Z0 U E n i : Nat) (u : Int) (z : Nat → Int) : Prop where
  bel : Below w.heap.size w W
  lt : w.heap.size ≤ W.heap.size
  lo : w.heap.size ≤ E
  elt : E < W.heap.size
  ne : Z0 ≠ E ∧ U ≠ E
  z0 : TZ W Z0
  cu : TB W U u
  made : ∀ j, j < i → TE W E j (z j)
  room : ∀ x, x < n * 5 → ∃ v, W.cell? ⟨E, x, none⟩ = some v
  fz : ∀ x, W.frozen? ⟨E, x, none⟩ = false

theorem H2.keep {w W W' : World} {Z0 U E n i : Nat} {u : Int} {z : Nat → Int} (h : H2 w W Z0 U E n i u z) (hb : Below W.heap.size W W') : H2 w W' Z0 U E n i u z :=
  ⟨h.bel.trans (hb.mono h.lt), Nat.le_trans h.lt hb.size, h.lo, Nat.lt_of_lt_of_le h.elt hb.size, h.ne, h.z0.keep hb, h.cu.keep hb, fun j hj => (h.made j hj).keep hb,
    fun x hx => (h.room x hx).imp fun _ hv => below_keeps hb hv, fun x => (hb.frozen (p := ⟨E, x, none⟩) h.elt).trans (h.fz x)⟩
theorem H2.one {w W : World} {Z0 U E n i : Nat} {u : Int} {z : Nat → Int} (h : H2 w W Z0 U E n i u z) (o : Obj) : H2 w (W.alloc o) Z0 U E n i u z := h.keep ((Below.refl _ W).alloc (Nat.le_refl _) o)
theorem H2.drew {w W : World} {Z0 U E n i : Nat} {u : Int} {z : Nat → Int} (h : H2 w W Z0 U E n i u z) : H2 w W.drew Z0 U E n i u z := h.keep (Below.refl _ W).drew

/-- three cells in a row written -/
abbrev set3 (W : World) (b x : Nat) (d : Int) : World := ((W.setCell ⟨b, x, none⟩ (.int .u64 (d % 1000000000))).setCell ⟨b, x + 1, none⟩ (.int .i64 (d / 1000000000))).setCell ⟨b, x + 1 + 1, none⟩ (.pointer none)

theorem set_oth (W : World) (b x y : Nat) (v : Value) (h : x ≠ y) : (W.setCell ⟨b, x, none⟩ v).cell? ⟨b, y, none⟩ = W.cell? ⟨b, y, none⟩ :=
  World.cell?_setCell_other W _ _ v (by intro e; injection e with _ e; exact h e)
theorem set3_far (W : World) (b x : Nat) (d : Int) (p : Addr) (h : b ≠ p.block) : (set3 W b x d).cell? p = W.cell? p := by
  unfold set3
  rw [World.cell?_setCell_far _ _ _ _ h, World.cell?_setCell_far _ _ _ _ h, World.cell?_setCell_far _ _ _ _ h]
theorem set3_other (W : World) (b x y : Nat) (d : Int) (h : y < x ∨ x + 3 ≤ y) : (set3 W b x d).cell? ⟨b, y, none⟩ = W.cell? ⟨b, y, none⟩ := by
  unfold set3
  rw [set_oth _ _ _ _ _ (by omega), set_oth _ _ _ _ _ (by omega), set_oth _ _ _ _ _ (by omega)]
theorem set3_same {W : World} {b x : Nat} (d : Int) {v0 v1 v2 : Value} (h0 : W.cell? ⟨b, x, none⟩ = some v0) (h1 : W.cell? ⟨b, x + 1, none⟩ = some v1) (h2 : W.cell? ⟨b, x + 1 + 1, none⟩ = some v2) :
    (set3 W b x d).cell? ⟨b, x, none⟩ = some (.int .u64 (d % 1000000000)) ∧ (set3 W b x d).cell? ⟨b, x + 1, none⟩ = some (.int .i64 (d / 1000000000)) ∧ (set3 W b x d).cell? ⟨b, x + 1 + 1, none⟩ = some (.pointer none) := by
  unfold set3
  refine ⟨?_, ?_, ?_⟩
  · rw [set_oth _ _ _ _ _ (by omega), set_oth _ _ _ _ _ (by omega), World.cell?_setCell_same _ _ _ h0]
  · rw [set_oth _ _ _ _ _ (by omega)]
    refine World.cell?_setCell_same (u := v1) _ _ _ ?_
    rw [set_oth _ _ _ _ _ (by omega)]
    exact h1
  · refine World.cell?_setCell_same (u := v2) _ _ _ ?_
    rw [set_oth _ _ _ _ _ (by omega), set_oth _ _ _ _ _ (by omega)]
    exact h2

theorem H2.step {w W : World} {Z0 U E n i : Nat} {u : Int} {z : Nat → Int} (h : H2 w W Z0 U E n i u z) (hi : i < n) : H2 w (set3 W E (i * 5 + 2) (z i)) Z0 U E n (i + 1) u z := by
  obtain ⟨v0, h0⟩ := h.room (i * 5 + 2) (by omega)
  obtain ⟨v1, h1⟩ := h.room (i * 5 + 2 + 1) (by omega)
  obtain ⟨v2, h2⟩ := h.room (i * 5 + 2 + 1 + 1) (by omega)
  have hs := set3_same (z i) h0 h1 h2
  refine ⟨((h.bel.setCell h.lo _).setCell h.lo _).setCell h.lo _, by simpa [set3] using h.lt, h.lo, by simpa [set3] using h.elt, h.ne, ⟨?_, ?_, ?_⟩, ⟨?_, ?_, ?_⟩, fun j hj => ?_, fun x hx => ?_, fun x => by simp [set3, h.fz x]⟩
  · rw [set3_far _ _ _ _ _ (fun e => h.ne.1 e.symm)]; exact h.z0.c0
  · rw [set3_far _ _ _ _ _ (fun e => h.ne.1 e.symm)]; exact h.z0.c1
  · rw [set3_far _ _ _ _ _ (fun e => h.ne.1 e.symm)]; exact h.z0.c2
  · rw [set3_far _ _ _ _ _ (fun e => h.ne.2 e.symm)]; exact h.cu.c0
  · rw [set3_far _ _ _ _ _ (fun e => h.ne.2 e.symm)]; exact h.cu.c1
  · rw [set3_far _ _ _ _ _ (fun e => h.ne.2 e.symm)]; exact h.cu.c2
  · by_cases hji : j = i
    · subst hji
      exact ⟨hs.1, hs.2.1, hs.2.2⟩
    · have hj' := h.made j (by omega)
      exact ⟨(set3_other _ _ _ _ _ (by omega)).trans hj'.c0, (set3_other _ _ _ _ _ (by omega)).trans hj'.c1, (set3_other _ _ _ _ _ (by omega)).trans hj'.c2⟩
  · obtain ⟨v, hv⟩ := h.room x hx
    obtain ⟨v', hv'⟩ := cell?_setCell_some (p := ⟨E, i * 5 + 2, none⟩) (x := .int .u64 (z i % 1000000000)) hv
    obtain ⟨v'', hv''⟩ := cell?_setCell_some (p := ⟨E, i * 5 + 2 + 1, none⟩) (x := .int .i64 (z i / 1000000000)) hv'
    exact cell?_setCell_some hv''

theorem H2.start {w W : World} (u : Int) (n : Nat) (z : Nat → Int) (hb : Below w.heap.size w W) :
    H2 w (((((W.alloc (.cells tz 56)).alloc (.cells (tcx u) 56)).alloc (.cells (tcx u) 56)).alloc (.cells (tcx u) 56)).alloc (.cells (madeCells ev0 (n * 5)) 61)) W.heap.size (W.heap.size + 1 + 1 + 1) (W.heap.size + 1 + 1 + 1 + 1) n 0 u z := by
  have hsz := hb.size
  have hE := heap_alloc_new ((((W.alloc (.cells tz 56)).alloc (.cells (tcx u) 56)).alloc (.cells (tcx u) 56)).alloc (.cells (tcx u) 56)) (.cells (madeCells ev0 (n * 5)) 61)
  simp only [World.size_alloc] at hE
  have hU := TB.new (((W.alloc (.cells tz 56)).alloc (.cells (tcx u) 56)).alloc (.cells (tcx u) 56)) u
  simp only [World.size_alloc] at hU
  obtain ⟨a, b, c⟩ := tm_cells (heap_alloc_new W (.cells tz 56))
  have hZ : TZ (W.alloc (.cells tz 56)) W.heap.size := ⟨a, b, c⟩
  have keep1 : ∀ (X : World) (o : Obj), Below X.heap.size X (X.alloc o) := fun X o => (Below.refl _ X).alloc (Nat.le_refl _) o
  refine ⟨?_, ?_, ?_, ?_, ⟨by omega, by omega⟩, ((((hZ.keep (keep1 _ _)).keep (keep1 _ _)).keep (keep1 _ _)).keep (keep1 _ _)), hU.one _, fun j hj => absurd hj (by omega), fun x hx => ?_, fun x => ?_⟩
  · exact (((((hb.alloc hsz _).alloc (by simp; omega) _).alloc (by simp; omega) _).alloc (by simp; omega) _).alloc (by simp; omega) _)
  · simp; omega
  · omega
  · simp
  · rw [cell_of_row _ _ _ _ _ _ hE]
    have : x < (madeCells ev0 (n * 5)).size := by rw [size_madeCells]; exact hx
    exact ⟨_, Array.getElem?_eq_getElem this⟩
  · unfold World.frozen?
    simp only [hE]
    simp

theorem H2.hid {w W : World} {Z0 U E n i : Nat} {u : Int} {z : Nat → Int} (h : H2 w W Z0 U E n i u z) : Hid (H2 w W Z0 U E n i u z) := h

/-- what the third loop keeps: the block P holds the time p -/
structure H3 (w W : World) (Z0 U E P n : Nat) (u : Int) (z : Nat → Int) (p : Int) : Prop where
  bel : Below w.heap.size w W
  lt : w.heap.size ≤ W.heap.size
  lo : w.heap.size ≤ P
  plt : P < W.heap.size
  elt : E < W.heap.size
  ne : Z0 ≠ P ∧ U ≠ P ∧ E ≠ P
  z0 : TZ W Z0
  cu : TB W U u
  made : ∀ j, j < n → TE W E j (z j)
  cp : TB W P p
  fz : ∀ x, W.frozen? ⟨P, x, none⟩ = false

theorem H3.keep {w W W' : World} {Z0 U E P n : Nat} {u p : Int} {z : Nat → Int} (h : H3 w W Z0 U E P n u z p) (hb : Below W.heap.size W W') : H3 w W' Z0 U E P n u z p :=
  ⟨h.bel.trans (hb.mono h.lt), Nat.le_trans h.lt hb.size, h.lo, Nat.lt_of_lt_of_le h.plt hb.size, Nat.lt_of_lt_of_le h.elt hb.size, h.ne, h.z0.keep hb, h.cu.keep hb, fun j hj => (h.made j hj).keep hb,
    h.cp.keep hb, fun x => (hb.frozen (p := ⟨P, x, none⟩) h.plt).trans (h.fz x)⟩
theorem H3.one {w W : World} {Z0 U E P n : Nat} {u p : Int} {z : Nat → Int} (h : H3 w W Z0 U E P n u z p) (o : Obj) : H3 w (W.alloc o) Z0 U E P n u z p := h.keep ((Below.refl _ W).alloc (Nat.le_refl _) o)
theorem H3.drew {w W : World} {Z0 U E P n : Nat} {u p : Int} {z : Nat → Int} (h : H3 w W Z0 U E P n u z p) : H3 w W.drew Z0 U E P n u z p := h.keep (Below.refl _ W).drew
theorem H3.hid {w W : World} {Z0 U E P n : Nat} {u p : Int} {z : Nat → Int} (h : H3 w W Z0 U E P n u z p) : Hid (H3 w W Z0 U E P n u z p) := h

theorem H3.start {w W : World} {Z0 U E n : Nat} {u : Int} {z : Nat → Int} (h : H2 w W Z0 U E n n u z) : H3 w (W.alloc (.cells tz 56)) Z0 U E W.heap.size n u z 0 := by
  have h1 := h.one (.cells tz 56)
  obtain ⟨a, b, c⟩ := tm_cells (heap_alloc_new W (.cells tz 56))
  have hU := World.block_lt_of_cell? _ _ h.cu.c0
  have hZ := World.block_lt_of_cell? _ _ h.z0.c0
  have hE := h.elt
  refine ⟨h1.bel, h1.lt, h.lt, by simp, h1.elt, ⟨Nat.ne_of_lt hZ, Nat.ne_of_lt hU, Nat.ne_of_lt hE⟩, h1.z0, h1.cu, h1.made, ⟨a, b, c⟩, fun x => ?_⟩
  have hg := heap_alloc_new W (.cells tz 56)
  unfold World.frozen?
  simp only [hg]
  simp

theorem H3.step {w W : World} {Z0 U E P n : Nat} {u p : Int} {z : Nat → Int} (h : H3 w W Z0 U E P n u z p) (t : Int) : H3 w (set3 W P 0 t) Z0 U E P n u z t := by
  have hs := set3_same t h.cp.c0 h.cp.c1 h.cp.c2
  have f1 : ∀ (x : Nat), (set3 W P 0 t).cell? ⟨Z0, x, none⟩ = W.cell? ⟨Z0, x, none⟩ := fun x => set3_far _ _ _ _ _ (fun e => h.ne.1 e.symm)
  have f2 : ∀ (x : Nat), (set3 W P 0 t).cell? ⟨U, x, none⟩ = W.cell? ⟨U, x, none⟩ := fun x => set3_far _ _ _ _ _ (fun e => h.ne.2.1 e.symm)
  have f3 : ∀ (x : Nat), (set3 W P 0 t).cell? ⟨E, x, none⟩ = W.cell? ⟨E, x, none⟩ := fun x => set3_far _ _ _ _ _ (fun e => h.ne.2.2 e.symm)
  exact ⟨((h.bel.setCell h.lo _).setCell h.lo _).setCell h.lo _, by simpa [set3] using h.lt, h.lo, by simpa [set3] using h.plt, by simpa [set3] using h.elt, h.ne, ⟨(f1 _).trans h.z0.c0, (f1 _).trans h.z0.c1, (f1 _).trans h.z0.c2⟩,
    ⟨(f2 _).trans h.cu.c0, (f2 _).trans h.cu.c1, (f2 _).trans h.cu.c2⟩, fun j hj => ⟨(f3 _).trans (h.made j hj).c0, (f3 _).trans (h.made j hj).c1, (f3 _).trans (h.made j hj).c2⟩, ⟨hs.1, hs.2.1, hs.2.2⟩, fun x => by simp [set3, h.fz x]⟩

/-- 'ZZheard' of no event -/
theorem heardK0 {w W : World} {Z0 U E P n : Nat} {u p : Int} {z : Nat → Int} (h : H3 w W Z0 U E P n u z p) :
    Calls Try.prog 23 #[.pointer (some ⟨W.heap.size, 0, none⟩)] (W.alloc (.cells (trs Try.zeroCells91 u (.slice (some ⟨E, 0, none⟩) 0 n)) 91)).drew
      fun e w' => e = .returned (.agg (tcx u)) ∧ H3 w w' Z0 U E P n u z p := by
  have hA := (h.one (.cells (trs Try.zeroCells91 u (.slice (some ⟨E, 0, none⟩) 0 n)) 91)).drew
  have hT : TrAt (W.alloc (.cells (trs Try.zeroCells91 u (.slice (some ⟨E, 0, none⟩) 0 n)) 91)).drew W.heap.size u (.slice (some ⟨E, 0, none⟩) 0 n) := tr_at u (.slice (some ⟨E, 0, none⟩) 0 n) W
  refine (heard_none W.heap.size n (some ⟨E, 0, none⟩) u _ hT).mono ?_
  rintro e w' ⟨he, hb⟩
  exact ⟨he, hA.keep hb⟩

/-- 'ZZheard' of the first j + 1 events -/
theorem heardK {w W : World} {Z0 U E P n j : Nat} {u p t : Int} {z : Nat → Int} (hj : j < n) (hn : n ≤ 131072) (ht : (if u < z j then z j else u) = t) (h : H3 w W Z0 U E P n u z p) :
    Calls Try.prog 23 #[.pointer (some ⟨W.heap.size, 0, none⟩)] (W.alloc (.cells (trs Try.zeroCells91 u (.slice (some ⟨E, 0, none⟩) (j + 1) n)) 91)).drew
      fun e w' => e = .returned (.agg (tcx t)) ∧ H3 w w' Z0 U E P n u z p := by
  have hA := (h.one (.cells (trs Try.zeroCells91 u (.slice (some ⟨E, 0, none⟩) (j + 1) n)) 91)).drew
  have hj' := hA.made j hj
  have hT : TrAt (W.alloc (.cells (trs Try.zeroCells91 u (.slice (some ⟨E, 0, none⟩) (j + 1) n)) 91)).drew W.heap.size u (.slice (some ⟨E, 0, none⟩) (j + 1) n) := tr_at u (.slice (some ⟨E, 0, none⟩) (j + 1) n) W
  refine (heard_some W.heap.size E j n u (z j) _ (by omega) hT hj'.c0 hj'.c1 hj'.c2).mono ?_
  rintro e w' ⟨he, hb⟩
  rw [ht] at he
  exact ⟨he, hA.keep hb⟩

theorem before_no (d p : Int) (h : p ≤ d) (w : World) :
    Calls Try.prog 26 #[.agg (tcx d), .agg (tcx p)] w fun e w' => e = .returned (.bool false) ∧ w' = (w.alloc (.cells (tcx d) 56)).alloc (.cells (tcx p) 56) := by
  refine (before_any d p w).mono ?_
  rintro e w' ⟨rfl, rfl⟩
  exact ⟨by rw [decide_eq_false (by omega)], rfl⟩
end Go.Proofs.Qxb6613106a.Tm
