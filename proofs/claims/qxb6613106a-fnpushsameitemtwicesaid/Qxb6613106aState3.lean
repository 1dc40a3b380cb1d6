import Derived.Test.Qxb6613106aState2
/-! The queue behind pushes of an item that is in it. -/
namespace Go.Proofs.Qxb6613106a.Push
open Go.RowKit Qfr

structure QP (w wr : World) (n : Nat) (v : Value) (bs ps : List Nat) (R X : Nat → Int) : Prop where
  bel : Below w.heap.size w wr
  qc : wr.heap[w.heap.size]? = some (.cells #[v] 42 (0, 0))
  own : wr.ownsRow (w.heap.size + 2) 43 1 v (bs.length + ps.length) ((bs ++ ps).map ptr)
  olds : wr.rowIs (w.heap.size + 1) 43 n (fun j => optPtr bs[j]?)
  its : ∀ (i b : Nat), bs[i]? = some b → wr.heap[b]? = some (.cells (Qfr.item (R i) (X i)) 101 (0, 0))
  inj : ∀ (i j b : Nat), bs[i]? = some b → bs[j]? = some b → i = j
  low : ∀ (i b : Nat), bs[i]? = some b → w.heap.size ≤ b

theorem Q1.pushes {w wr : World} {n : Nat} {v : Value} {bs : List Nat} {R X : Nat → Int} (h : Q1 w wr n v bs R X) (hl : ∀ (i b : Nat), bs[i]? = some b → w.heap.size ≤ b) : QP w wr n v bs [] R X :=
  ⟨h.bel, h.qc, by simpa using h.own, h.olds, h.its, fun i j b hi hj => by
    rcases Nat.lt_trichotomy i j with e | e | e
    · have := h.inc i j b b hi hj e; omega
    · exact e
    · have := h.inc j i b b hj hi e; omega, hl⟩

theorem QP.drewN {w wr : World} {n : Nat} {v : Value} {bs ps : List Nat} {R X : Nat → Int} (h : QP w wr n v bs ps R X) (k : Nat) : QP w (wr.drewN k) n v bs ps R X :=
  ⟨⟨h.bel.os, h.bel.tape, h.bel.output, h.bel.size, h.bel.block⟩, h.qc, h.own, h.olds, h.its, h.inj, h.low⟩

theorem QP.lo {w wr : World} {n : Nat} {v : Value} {bs ps : List Nat} {R X : Nat → Int} (h : QP w wr n v bs ps R X) : w.heap.size + 2 ≤ wr.heap.size := h.olds.lt

theorem QP.push {w wr w' : World} {n : Nat} {v : Value} {bs ps : List Nat} {R X : Nat → Int} (h : QP w wr n v bs ps R X) {k b : Nat} (hb : bs[k]? = some b) {g cap : Nat}
    (p : Pushed wr w' w.heap.size b v g cap (bs.length + ps.length) ((bs ++ ps).map ptr) (w.heap.size + 2) (R k)) :
    QP w w' n (.slice (some ⟨g, 0, none⟩) (bs.length + ps.length + 1) cap) bs (ps ++ [b]) R (fun i => if i = k then ((bs.length + ps.length : Nat) : Int) else X i) := by
  have hlo := h.lo
  have hol : ∀ j, v.ownBlock = some j → w.heap.size + 2 ≤ j := fun j hj => (h.own.lt j hj).1
  obtain ⟨c, hc, _⟩ := h.olds
  have hbO : b ≠ w.heap.size + 1 := tag_ne (h.its k b hb) hc (by decide)
  have hbB : w.heap.size ≤ b := h.low k b hb
  refine ⟨?_, p.qc, ?_, ?_, ?_, h.inj, h.low⟩
  · exact p.fr.below h.bel (fun j hj => by rcases hj with h1 | h1 | h1; omega; omega; have := hol j h1; omega)
  · have := p.own
    have e : (bs ++ (ps ++ [b])).map ptr = (bs ++ ps).map ptr ++ [ptr b] := by simp
    rw [e, List.length_append, List.length_singleton, ← Nat.add_assoc]
    exact this
  · exact h.olds.of_block (p.fr.block _ h.olds.lt (by rintro (e | e | e); omega; exact hbO e.symm; have := hol _ e; omega))
  · intro i d hd
    by_cases e : i = k
    · subst e
      rw [hb] at hd
      injection hd with hd
      subst hd
      rw [if_pos rfl]
      exact p.pc
    · rw [if_neg e]
      have hi := h.its i d hd
      have n1 : d ≠ w.heap.size := tag_ne hi h.qc (by decide)
      have n2 : d ≠ b := fun e2 => e (h.inj i k b (by rw [← e2]; exact hd) hb)
      have n3 := own_ne h.own hi (by decide)
      rw [p.fr.block d (lt_of_block hi) (by rintro (e | e | e); exact n1 e; exact n2 e; exact n3 e)]
      exact hi

theorem low_next {w wr : World} {bs : List Nat} (hl : ∀ (i b : Nat), bs[i]? = some b → w.heap.size ≤ b) (hs : w.heap.size ≤ wr.heap.size) : ∀ (i b : Nat), (bs ++ [wr.heap.size])[i]? = some b → w.heap.size ≤ b := by
  intro i b hb
  by_cases e : i < bs.length
  · rw [List.getElem?_append_left e] at hb
    exact hl i b hb
  · have hi : i < (bs ++ [wr.heap.size]).length := (List.getElem?_eq_some_iff.1 hb).1
    simp at hi
    have e2 : i = bs.length := by omega
    subst e2
    simp at hb
    omega

theorem idx42s (g len cap k : Nat) (hk : k + 1 < len) (w : World) :
    (Instr.indexAt 42 (.slice (some ⟨g, 0, none⟩) len cap) (.int .i64 ((k : Int) + 1))).run Try.prog w = .ok (.pointer (some ⟨g, k + 1, none⟩)) w := by
  have := idx42 (a := some ⟨g, 0, none⟩) rfl len cap (k + 1) hk w
  simpa using this
end Go.Proofs.Qxb6613106a.Push
