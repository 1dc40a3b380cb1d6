import Derived.Test.Qxb6613106aOrd0
namespace Go.Proofs.Qxb6613106a.Tm
open Go.RowKit Qfr

/-- a variable of type time.Time, new -/
structure NewT (w : World) (B : Nat) : Prop where
  c0 : w.cell? ⟨B, 0, none⟩ = some (.int .u64 0)
  c1 : w.cell? ⟨B, 1, none⟩ = some (.int .i64 0)
  c2 : w.cell? ⟨B, 2, none⟩ = some (.pointer none)
  f : ∀ x, w.frozen? ⟨B, x, none⟩ = false
theorem NewT.keep {wa wb : World} {b : Nat} (h : NewT wa b) (hb : Below wa.heap.size wa wb) : NewT wb b :=
  ⟨below_keeps hb h.c0, below_keeps hb h.c1, below_keeps hb h.c2, fun x => (hb.frozen (p := ⟨b, x, none⟩) (show b < wa.heap.size from World.block_lt_of_cell? wa ⟨b, 0, none⟩ h.c0)).trans (h.f x)⟩
theorem NewT.new (w : World) : NewT (w.alloc (.cells tz 56)) w.heap.size := by
  have hg := heap_alloc_new w (.cells tz 56)
  obtain ⟨a, b, c⟩ := tm_cells hg
  refine ⟨a, b, c, fun x => ?_⟩
  unfold World.frozen?
  simp only [hg]
  simp

/-- the blocks that the third loop names lie ahead of a block -/
structure Ahead (Z0 U E P B : Nat) : Prop where
  h0 : Z0 < B
  h1 : U < B
  h2 : E < B
  h3 : P < B

theorem H3.ahead {w W : World} {Z0 U E P n : Nat} {u p : Int} {z : Nat → Int} (h : H3 w W Z0 U E P n u z p) : Ahead Z0 U E P W.heap.size :=
  ⟨World.block_lt_of_cell? _ _ h.z0.c0, World.block_lt_of_cell? _ _ h.cu.c0, h.elt, h.plt⟩

theorem Ahead.up {Z0 U E P B : Nat} (h : Ahead Z0 U E P B) : Ahead Z0 U E P (B + 1) := ⟨by have := h.h0; omega, by have := h.h1; omega, by have := h.h2; omega, by have := h.h3; omega⟩
theorem H3.far {w W : World} {Z0 U E P n B : Nat} {u p : Int} {z : Nat → Int} (h : H3 w W Z0 U E P n u z p) (hB : w.heap.size ≤ B) (ha : Ahead Z0 U E P B) (t : Int) : H3 w (set3 W B 0 t) Z0 U E P n u z p := by
  have f1 : ∀ (x : Nat), (set3 W B 0 t).cell? ⟨Z0, x, none⟩ = W.cell? ⟨Z0, x, none⟩ := fun x => set3_far _ _ _ _ _ (fun e => Nat.lt_irrefl B (e.symm ▸ ha.h0))
  have f2 : ∀ (x : Nat), (set3 W B 0 t).cell? ⟨U, x, none⟩ = W.cell? ⟨U, x, none⟩ := fun x => set3_far _ _ _ _ _ (fun e => Nat.lt_irrefl B (e.symm ▸ ha.h1))
  have f3 : ∀ (x : Nat), (set3 W B 0 t).cell? ⟨E, x, none⟩ = W.cell? ⟨E, x, none⟩ := fun x => set3_far _ _ _ _ _ (fun e => Nat.lt_irrefl B (e.symm ▸ ha.h2))
  have f4 : ∀ (x : Nat), (set3 W B 0 t).cell? ⟨P, x, none⟩ = W.cell? ⟨P, x, none⟩ := fun x => set3_far _ _ _ _ _ (fun e => Nat.lt_irrefl B (e.symm ▸ ha.h3))
  exact ⟨((h.bel.setCell hB _).setCell hB _).setCell hB _, by simpa [set3] using h.lt, h.lo, by simpa [set3] using h.plt, by simpa [set3] using h.elt, h.ne, ⟨(f1 _).trans h.z0.c0, (f1 _).trans h.z0.c1, (f1 _).trans h.z0.c2⟩,
    ⟨(f2 _).trans h.cu.c0, (f2 _).trans h.cu.c1, (f2 _).trans h.cu.c2⟩, fun j hj => ⟨(f3 _).trans (h.made j hj).c0, (f3 _).trans (h.made j hj).c1, (f3 _).trans (h.made j hj).c2⟩, ⟨(f4 _).trans h.cp.c0, (f4 _).trans h.cp.c1, (f4 _).trans h.cp.c2⟩, fun x => by simp [set3, h.fz x]⟩

theorem NewT.set {W : World} {B : Nat} (h : NewT W B) (t : Int) : TB (set3 W B 0 t) B t := by
  have hs := set3_same t h.c0 h.c1 h.c2
  exact ⟨hs.1, hs.2.1, hs.2.2⟩

/-- which events 'ZZheard' is handed, and what it answers -/
def Kth (n : Nat) (u : Int) (z : Nat → Int) (k : Nat) (t : Int) : Prop := (k = 0 ∧ t = u) ∨ ∃ j, k = j + 1 ∧ j < n ∧ (if u < z j then z j else u) = t

theorem heardG {w X : World} {Z0 U E P n k tb : Nat} {u p t : Int} {z : Nat → Int} (hn : n ≤ 131072) (hk : Kth n u z k t) (h : H3 w X Z0 U E P n u z p) (hT : TrAt X tb u (.slice (some ⟨E, 0, none⟩) k n)) :
    Calls Try.prog 23 #[.pointer (some ⟨tb, 0, none⟩)] X fun e w' => e = .returned (.agg (tcx t)) ∧ H3 w w' Z0 U E P n u z p ∧ Below X.heap.size X w' := by
  rcases hk with ⟨rfl, rfl⟩ | ⟨j, rfl, hj, ht⟩
  · refine (heard_none tb n (some ⟨E, 0, none⟩) t _ hT).mono ?_
    rintro e w' ⟨he, hb⟩
    exact ⟨he, h.keep hb, hb⟩
  · have hj' := h.made j hj
    refine (heard_some tb E j n u (z j) _ (by omega) hT hj'.c0 hj'.c1 hj'.c2).mono ?_
    rintro e w' ⟨he, hb⟩
    rw [ht] at he
    exact ⟨he, h.keep hb, hb⟩

theorem TrAt.keep {X Y : World} {tb : Nat} {u : Int} {v : Value} (h : TrAt X tb u v) (hb : Below X.heap.size X Y) : TrAt Y tb u v :=
  ⟨below_keeps hb h.1, below_keeps hb h.2.1, below_keeps hb h.2.2.1, below_keeps hb h.2.2.2⟩

/-- the variable made ahead of the transfer -/
theorem heardO1 {w W : World} {Z0 U E P n k : Nat} {u p t : Int} {z : Nat → Int} (hn : n ≤ 131072) (hk : Kth n u z k t) (h : H3 w W Z0 U E P n u z p) :
    Calls Try.prog 23 #[.pointer (some ⟨W.heap.size + 1, 0, none⟩)] ((W.alloc (.cells tz 56)).alloc (.cells (trs Try.zeroCells91 u (.slice (some ⟨E, 0, none⟩) k n)) 91)).drew
      fun e w' => e = .returned (.agg (tcx t)) ∧ H3 w w' Z0 U E P n u z p ∧ NewT w' W.heap.size := by
  have hT0 := tr_at u (.slice (some ⟨E, 0, none⟩) k n) (W.alloc (.cells tz 56))
  rw [World.size_alloc] at hT0
  have hb0 : Below (W.alloc (.cells tz 56)).heap.size (W.alloc (.cells tz 56)) ((W.alloc (.cells tz 56)).alloc (.cells (trs Try.zeroCells91 u (.slice (some ⟨E, 0, none⟩) k n)) 91)).drew := ((Below.refl _ _).alloc (Nat.le_refl _) _).drew
  have hT : TrAt ((W.alloc (.cells tz 56)).alloc (.cells (trs Try.zeroCells91 u (.slice (some ⟨E, 0, none⟩) k n)) 91)).drew (W.heap.size + 1) u (.slice (some ⟨E, 0, none⟩) k n) := hT0
  refine (heardG hn hk (((h.one _).one _).drew) hT).mono ?_
  rintro e w' ⟨he, h3, hb⟩
  exact ⟨he, h3, ((NewT.new W).keep hb0).keep hb⟩

/-- the variable made behind the transfer, ahead of the call -/
theorem heardO2 {w W : World} {Z0 U E P n k : Nat} {u p t : Int} {z : Nat → Int} (hn : n ≤ 131072) (hk : Kth n u z k t) (h : H3 w W Z0 U E P n u z p) :
    Calls Try.prog 23 #[.pointer (some ⟨W.heap.size, 0, none⟩)] ((W.alloc (.cells (trs Try.zeroCells91 u (.slice (some ⟨E, 0, none⟩) k n)) 91)).alloc (.cells tz 56)).drew
      fun e w' => e = .returned (.agg (tcx t)) ∧ H3 w w' Z0 U E P n u z p ∧ NewT w' (W.heap.size + 1) := by
  have hN := NewT.new (W.alloc (.cells (trs Try.zeroCells91 u (.slice (some ⟨E, 0, none⟩) k n)) 91))
  rw [World.size_alloc] at hN
  have hb0 : Below (W.alloc (.cells (trs Try.zeroCells91 u (.slice (some ⟨E, 0, none⟩) k n)) 91)).heap.size (W.alloc (.cells (trs Try.zeroCells91 u (.slice (some ⟨E, 0, none⟩) k n)) 91)) ((W.alloc (.cells (trs Try.zeroCells91 u (.slice (some ⟨E, 0, none⟩) k n)) 91)).alloc (.cells tz 56)).drew := ((Below.refl _ _).alloc (Nat.le_refl _) _).drew
  refine (heardG hn hk (((h.one _).one _).drew) ((tr_at u (.slice (some ⟨E, 0, none⟩) k n) W).keep hb0)).mono ?_
  rintro e w' ⟨he, h3, hb⟩
  have hN' : NewT ((W.alloc (.cells (trs Try.zeroCells91 u (.slice (some ⟨E, 0, none⟩) k n)) 91)).alloc (.cells tz 56)).drew (W.heap.size + 1) := hN.keep (Below.refl _ _).drew
  exact ⟨he, h3, hN'.keep hb⟩

/-- the variable made behind the call -/
theorem heardO3 {w W : World} {Z0 U E P n k : Nat} {u p t : Int} {z : Nat → Int} (hn : n ≤ 131072) (hk : Kth n u z k t) (h : H3 w W Z0 U E P n u z p) :
    Calls Try.prog 23 #[.pointer (some ⟨W.heap.size, 0, none⟩)] (W.alloc (.cells (trs Try.zeroCells91 u (.slice (some ⟨E, 0, none⟩) k n)) 91)).drew
      fun e w' => e = .returned (.agg (tcx t)) ∧ H3 w w' Z0 U E P n u z p := by
  have hT : TrAt (W.alloc (.cells (trs Try.zeroCells91 u (.slice (some ⟨E, 0, none⟩) k n)) 91)).drew W.heap.size u (.slice (some ⟨E, 0, none⟩) k n) := tr_at u (.slice (some ⟨E, 0, none⟩) k n) W
  refine (heardG hn hk ((h.one _).drew) hT).mono ?_
  rintro e w' ⟨he, h3, hb⟩
  exact ⟨he, h3⟩


theorem Kth.ge {n k : Nat} {u t : Int} {z : Nat → Int} (h : Kth n u z k t) : u ≤ t := by
  rcases h with ⟨_, rfl⟩ | ⟨j, _, _, ht⟩
  · omega
  · split at ht <;> omega
theorem Kth.up {n j : Nat} {u t : Int} {z : Nat → Int} (h : Kth n u z j t) (hlt : t < z j) (hj : j < n) : Kth n u z (j + 1) (z j) :=
  .inr ⟨j, rfl, hj, if_pos (by have := h.ge; omega)⟩
theorem Kth.stay {n j : Nat} {u t : Int} {z : Nat → Int} (hs : ∀ j, j + 1 < n → z j ≤ z (j + 1)) (h : Kth n u z j t) (hle : z j ≤ t) (hj : j < n) : Kth n u z (j + 1) t := by
  refine .inr ⟨j, rfl, hj, ?_⟩
  rcases h with ⟨_, rfl⟩ | ⟨i, rfl, hi, ht⟩
  · rw [if_neg (by omega)]
  · have := hs i (by omega)
    split at ht <;> split <;> omega
theorem Kth.bounds {w : World} {a : Option Addr} {n k : Nat} {u t : Int} {z : Nat → Int} (h : Kth n u z k t) (hq : RR w a n z) (hu : -9223372036854775808 ≤ u ∧ u ≤ 9223372036854775807) : -9223372036854775808 ≤ t ∧ t ≤ 9223372036854775807 := by
  rcases h with ⟨_, rfl⟩ | ⟨j, _, hj, ht⟩
  · exact hu
  · obtain ⟨_, _, _, _, _, h0, h1⟩ := hq j hj
    split at ht <;> omega

/-- the third loop's numbers -/
def G3 (n : Nat) (u : Int) (z : Nat → Int) (k : Nat) (t p : Int) : Prop := (k = 0 ∧ t = u) ∨ ∃ j, k = j + 1 ∧ Kth n u z j t ∧ p = t
theorem G3.next {n k : Nat} {u t : Int} {z : Nat → Int} (h : Kth n u z k t) : G3 n u z (k + 1) t t := .inr ⟨k, rfl, h, rfl⟩
theorem kHid {n k : Nat} {u t : Int} {z : Nat → Int} (h : Kth n u z k t) : Hid (Kth n u z k t) := h

theorem sl59 (E n k : Nat) (hk : k ≤ n) (w : World) : (Instr.slice 59 (.slice (some ⟨E, 0, none⟩) n n) none (some (.int .i64 (k : Int))) none).run Try.prog w = .ok (.slice (some ⟨E, 0, none⟩) k n) w := by
  rw [run_slice_h w 59 (some ⟨E, 0, none⟩) n n (by kernel_rfl) .i64 (k : Int) (by omega) (by omega)]
  have hz : (sizeOf (Try.prog.elem 59)).run Try.prog w = .ok 5 w := by kernel_rfl
  rw [hz]
  have : (⟨E, 0, none⟩ : Addr).add (0 * 5) = ⟨E, 0, none⟩ := by unfold Addr.add; split <;> simp_all
  simp [sliced, this]
theorem sl59s (E n k : Nat) (hk : k + 1 ≤ n) (w : World) : (Instr.slice 59 (.slice (some ⟨E, 0, none⟩) n n) none (some (.int .i64 ((k : Int) + 1))) none).run Try.prog w = .ok (.slice (some ⟨E, 0, none⟩) (k + 1) n) w := sl59 E n (k + 1) hk w
end Go.Proofs.Qxb6613106a.Tm
