import Derived.Test.Qxb6613106aState
import Derived.Lib.Builder
/-! The queue behind k rounds of the second loop (items pushed one by one). -/
namespace Go.Proofs.Qxb6613106a.Push
open Go.RowKit Qfr

structure Q2 (w wr : World) (N n m : Nat) (v : Value) (bs cs : List Nat) (R X R' : Nat → Int) : Prop where
  bel : Below w.heap.size w wr
  qc : wr.heap[w.heap.size]? = some (.cells #[v] 42 (0, 0))
  own : wr.ownsRow (w.heap.size + 2) 43 1 v (bs.length + cs.length) ((bs ++ cs).map ptr)
  olds : wr.rowIs (w.heap.size + 1) 43 n (fun j => optPtr bs[j]?)
  news : wr.rowIs N 43 m (fun j => optPtr cs[j]?)
  nlo : w.heap.size + 2 ≤ N
  nN : v.ownBlock ≠ some N
  its : ∀ (i b : Nat), bs[i]? = some b → wr.heap[b]? = some (.cells (Qfr.item (R i) (X i)) 101 (0, 0))
  its' : ∀ (i b : Nat), cs[i]? = some b → wr.heap[b]? = some (.cells (Qfr.item (R' i) ((bs.length + i : Nat) : Int)) 101 (0, 0))

theorem Q1.second {w wr : World} {n : Nat} {v : Value} {bs : List Nat} {R X : Nat → Int} (h : Q1 w wr n v bs R X) (m : Nat) (R' : Nat → Int) :
    Q2 w (wr.alloc (.cells (madeCells #[.pointer none] m) 43)) wr.heap.size n m v bs [] R X R' where
  bel := h.bel.alloc h.bel.size _
  qc := by rw [Below.heap_alloc _ _ _ (lt_of_block h.qc)]; exact h.qc
  own := by simpa using h.own.alloc _
  olds := h.olds.alloc _
  news := World.rowIs_made wr (.pointer none) m 43
  nlo := h.lo
  nN := fun e => by have := (h.own.lt _ e).2; omega
  its := fun i b hb => by
    have := h.its i b hb
    rw [Below.heap_alloc _ _ _ (lt_of_block this)]; exact this
  its' := fun i b hb => by simp at hb

theorem Q2.drewN {w wr : World} {N n m : Nat} {v : Value} {bs cs : List Nat} {R X R' : Nat → Int} (h : Q2 w wr N n m v bs cs R X R') (k : Nat) : Q2 w (wr.drewN k) N n m v bs cs R X R' :=
  ⟨⟨h.bel.os, h.bel.tape, h.bel.output, h.bel.size, h.bel.block⟩, h.qc, h.own, h.olds, h.news, h.nlo, h.nN, h.its, h.its'⟩

/-- the world at the push -/
structure At2 (w wr W : World) (N m : Nat) (v : Value) (bs cs : List Nat) (r x : Int) : Prop where
  fr : Fr (fun k => k = N) wr W
  news : W.rowIs N 43 m (fun j => optPtr (cs ++ [wr.heap.size])[j]?)
  pc : W.heap[wr.heap.size]? = some (.cells (Qfr.item r x) 101 (0, 0))
  qc : W.heap[w.heap.size]? = some (.cells #[v] 42 (0, 0))
  own : W.ownsRow (w.heap.size + 2) 43 1 v (bs.length + cs.length) ((bs ++ cs).map ptr)
  base : w.heap.size + 2 ≤ W.heap.size

theorem Q2.at {w wr : World} {N n m : Nat} {v : Value} {bs cs : List Nat} {R X R' : Nat → Int} (h : Q2 w wr N n m v bs cs R X R') (r x : Int) :
    At2 w wr ((wr.setCell ⟨N, cs.length, none⟩ (ptr wr.heap.size)).alloc (.cells (Qfr.item r x) 101)).drew N m v bs cs r x := by
  have hlo := h.nlo
  have hNlt := h.news.lt
  have hs : (wr.setCell ⟨N, cs.length, none⟩ (ptr wr.heap.size)).heap.size = wr.heap.size := by simp [World.setCell]
  have fr : Fr (fun k => k = N) wr ((wr.setCell ⟨N, cs.length, none⟩ (ptr wr.heap.size)).alloc (.cells (Qfr.item r x) 101)).drew :=
    (((Fr.refl (fun k => k = N) wr).setCell (p := ⟨N, cs.length, none⟩) (Or.inl rfl) _).alloc _).drew
  refine ⟨fr, ?_, ?_, ?_, ?_, ?_⟩
  · have := ((h.news.set cs.length (ptr wr.heap.size)).alloc (.cells (Qfr.item r x) 101))
    refine World.rowIs.drew (this.congr fun j _ => ?_)
    by_cases e : j = cs.length
    · subst e; simp [optPtr]
    · rw [if_neg e]
      by_cases e2 : j < cs.length
      · rw [List.getElem?_append_left e2]
      · rw [List.getElem?_eq_none (by omega), List.getElem?_eq_none (by simp; omega)]
  · have hn := heap_alloc_new (wr.setCell ⟨N, cs.length, none⟩ (ptr wr.heap.size)) (.cells (Qfr.item r x) 101)
    rw [hs] at hn
    exact hn
  · rw [fr.block _ (lt_of_block h.qc) (by omega)]; exact h.qc
  · exact own_of_block h.own fun g hg => fr.block g (h.own.lt g hg).2 (by rintro rfl; exact h.nN hg)
  · have := fr.size; omega

theorem tag_ne {w : World} {a b : Nat} {c c' : Array Value} {t t' : TypeId} {m m' : Nat × Nat} (ha : w.heap[a]? = some (.cells c t m)) (hb : w.heap[b]? = some (.cells c' t' m')) (ht : t ≠ t') : a ≠ b := by
  rintro rfl
  rw [ha] at hb
  injection hb with hb
  injection hb with _ h2 _
  exact ht h2

theorem Q2.next {w wr W w' : World} {N n m : Nat} {v : Value} {bs cs : List Nat} {R X R' : Nat → Int} {x : Int} (h : Q2 w wr N n m v bs cs R X R') (a : At2 w wr W N m v bs cs (R' cs.length) x) {g cap : Nat}
    (p : Pushed W w' w.heap.size wr.heap.size v g cap (bs.length + cs.length) ((bs ++ cs).map ptr) (w.heap.size + 2) (R' cs.length)) :
    Q2 w w' N n m (.slice (some ⟨g, 0, none⟩) (bs.length + cs.length + 1) cap) bs (cs ++ [wr.heap.size]) R X R' := by
  have hlo := h.nlo
  have hNlt := h.news.lt
  have hOlt := h.olds.lt
  have hqlt := lt_of_block h.qc
  have hol : ∀ k, v.ownBlock = some k → w.heap.size + 2 ≤ k := fun k hk => (a.own.lt k hk).1
  have fr : Fr (fun k => k = N ∨ k = w.heap.size ∨ k = wr.heap.size ∨ v.ownBlock = some k) wr w' :=
    (a.fr.mono (fun k _ hk => Or.inl hk)).trans p.fr (fun k _ hk => Or.inr hk)
  have item_at : ∀ (b : Nat) (r y : Int), wr.heap[b]? = some (.cells (Qfr.item r y) 101 (0, 0)) → w'.heap[b]? = some (.cells (Qfr.item r y) 101 (0, 0)) := by
    intro b r y hb
    have hlt := lt_of_block hb
    have n1 : b ≠ w.heap.size := tag_ne hb h.qc (by decide)
    obtain ⟨c, hc, _⟩ := h.news
    have n2 : b ≠ N := tag_ne hb hc (by decide)
    have n3 := own_ne h.own hb (by decide)
    rw [fr.block b hlt (by rintro (e | e | e | e); exact n2 e; exact n1 e; omega; exact n3 e)]
    exact hb
  refine ⟨?_, p.qc, ?_, ?_, ?_, hlo, ?_, fun i b hb => item_at b _ _ (h.its i b hb), ?_⟩
  · exact fr.below h.bel (fun k hk => by rcases hk with h1 | h1 | h1 | h1; omega; omega; have := h.bel.size; omega; have := hol k h1; omega)
  · have := p.own
    have e : (bs ++ (cs ++ [wr.heap.size])).map ptr = (bs ++ cs).map ptr ++ [ptr wr.heap.size] := by simp
    rw [e, List.length_append, List.length_singleton, ← Nat.add_assoc]
    exact this
  · exact h.olds.of_block (fr.block _ hOlt (by rintro (e | e | e | e); omega; omega; omega; have := hol _ e; omega))
  · refine a.news.of_block (p.fr.block N a.news.lt ?_)
    rintro (e | e | e)
    · omega
    · omega
    · exact h.nN e
  · intro e
    have e' : g = N := by simpa [Value.ownBlock] using e
    subst e'
    rcases p.lies with hl | hl
    · exact h.nN hl
    · have := a.fr.size; omega
  · intro i b hb
    by_cases e : i < cs.length
    · rw [List.getElem?_append_left e] at hb
      exact item_at b _ _ (h.its' i b hb)
    · have hi : i < (cs ++ [wr.heap.size]).length := (List.getElem?_eq_some_iff.1 hb).1
      simp at hi
      have e2 : i = cs.length := by omega
      subst e2
      simp at hb
      rw [← hb]
      exact p.pc

theorem add_head (g i : Nat) : (⟨g, 0, none⟩ : Addr).add i = ⟨g, i, none⟩ := by unfold Addr.add; split <;> simp_all

/-- the cells of what is owned -/
theorem own_cell {w : World} {base g n cap : Nat} {ps : List Nat} (h : w.ownsRow base 43 1 (.slice (some ⟨g, 0, none⟩) n cap) n (ps.map ptr)) {i b : Nat} (hb : ps[i]? = some b) : w.cell? ⟨g, i, none⟩ = some (ptr b) := by
  have := h.cells (g := g) rfl i (ptr b) (by simp [hb])
  rwa [add_head] at this

theorem own_addr {w : World} {base n cap : Nat} {a : Option Addr} {xs : List Value} (h : w.ownsRow base 43 1 (.slice a n cap) n xs) (hn : 0 < n) : ∃ g, a = some ⟨g, 0, none⟩ := by
  obtain ⟨g, c, hv, _⟩ := h.form hn
  injection hv with h1 _ _
  exact ⟨g, h1⟩

theorem idx42 {a : Option Addr} {g : Nat} (ha : a = some ⟨g, 0, none⟩) (len cap k : Nat) (hk : k < len) (w : World) :
    (Instr.indexAt 42 (.slice a len cap) (.int .i64 (k : Int))).run Try.prog w = .ok (.pointer (some ⟨g, k, none⟩)) w := by
  subst ha
  rw [run_indexAt_slice w 42 _ len cap .i64 k (by kernel_rfl), if_pos (by omega)]
  have hz : (sizeOf (Try.prog.elem 42)).run Try.prog w = .ok 1 w := by kernel_rfl
  rw [hz]
  simp [add_head]

theorem info101 : (Try.prog.info? 101).map (fun i => (i.size, i.bytes)) = some (6, 48) := by kernel_rfl
theorem neq43 (b : Nat) (w : World) : (binOp .neq 43 (ptr b) (ptr b)).run Try.prog w = .ok (.bool false) w := by
  obtain ⟨j, hj, _⟩ := Option.map_eq_some_iff.1 info101
  exact Go.Lib.run_neq_ptr_same (P := Try.prog) (w := w) ⟨b, 0, none⟩ Try.underlying43 hj

theorem idx42i (g len cap k l : Nat) (hk : k + l < len) (w : World) :
    (Instr.indexAt 42 (.slice (some ⟨g, 0, none⟩) len cap) (.int .i64 ((k : Int) + (l : Int)))).run Try.prog w = .ok (.pointer (some ⟨g, k + l, none⟩)) w := by
  have := idx42 (a := some ⟨g, 0, none⟩) rfl len cap (k + l) hk w
  simpa using this
theorem idx42j {a : Option Addr} {g : Nat} (ha : a = some ⟨g, 0, none⟩) (len cap k l : Nat) (hk : k + l < len) (w : World) :
    (Instr.indexAt 42 (.slice a len cap) (.int .i64 ((k : Int) + (l : Int)))).run Try.prog w = .ok (.pointer (some ⟨g, k + l, none⟩)) w := by
  subst ha
  exact idx42i g len cap k l hk w
end Go.Proofs.Qxb6613106a.Push
