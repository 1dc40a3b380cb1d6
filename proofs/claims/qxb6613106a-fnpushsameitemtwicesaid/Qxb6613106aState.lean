import Derived.Test.Qxb6613106aPush
/-! The queue as it is built: what lies in memory behind k rounds of the first loop. -/
namespace Go.Proofs.Qxb6613106a.Push
open Go.RowKit Qfr

def optPtr : Option Nat → Value
  | some b => ptr b
  | none => .pointer none

structure Q1 (w wr : World) (n : Nat) (v : Value) (bs : List Nat) (R X : Nat → Int) : Prop where
  bel : Below w.heap.size w wr
  qc : wr.heap[w.heap.size]? = some (.cells #[v] 42 (0, 0))
  own : wr.ownsRow (w.heap.size + 2) 43 1 v bs.length (bs.map ptr)
  olds : wr.rowIs (w.heap.size + 1) 43 n (fun j => optPtr bs[j]?)
  its : ∀ (i b : Nat), bs[i]? = some b → wr.heap[b]? = some (.cells (Qfr.item (R i) (X i)) 101 (0, 0))
  inc : ∀ (i j b c : Nat), bs[i]? = some b → bs[j]? = some c → i < j → b < c

theorem Q1.start (w : World) (n : Nat) (R X : Nat → Int) : Q1 w ((w.alloc (.cells #[.slice none 0 0] 42)).alloc (.cells (madeCells #[.pointer none] n) 43)) n (.slice none 0 0) [] R X where
  bel := ((Below.refl _ _).alloc (Nat.le_refl _) _).alloc (by simp) _
  qc := by rw [Below.heap_alloc _ _ _ (by simp)]; exact heap_alloc_new _ _
  own := World.ownsRow_nil _ _ _ _
  olds := by
    have := World.rowIs_made (w.alloc (.cells #[.slice none 0 0] 42)) (.pointer none) n 43
    simp at this
    exact this
  its := fun i b h => by simp at h
  inc := fun i j b c h => by simp at h

/-- the world at the append: the new item, its pointer in the second array -/
structure At1 (w wr W : World) (n : Nat) (v : Value) (bs : List Nat) (R X : Nat → Int) : Prop where
  fr : Fr (fun k => k = w.heap.size + 1) wr W
  olds : W.rowIs (w.heap.size + 1) 43 n (fun j => optPtr (bs ++ [wr.heap.size])[j]?)
  pc : W.heap[wr.heap.size]? = some (.cells (Qfr.item (R bs.length) (X bs.length)) 101 (0, 0))
  qc : W.heap[w.heap.size]? = some (.cells #[v] 42 (0, 0))
  own : W.ownsRow (w.heap.size + 2) 43 1 v bs.length (bs.map ptr)
  base : w.heap.size + 2 ≤ W.heap.size

theorem Q1.lo {w wr : World} {n : Nat} {v : Value} {bs : List Nat} {R X : Nat → Int} (h : Q1 w wr n v bs R X) : w.heap.size + 2 ≤ wr.heap.size := h.olds.lt

theorem Q1.at {w wr : World} {n : Nat} {v : Value} {bs : List Nat} {R X : Nat → Int} (h : Q1 w wr n v bs R X) {r x : Int} (hr : r = R bs.length) (hx : x = X bs.length) (u : Array Value) (t : TypeId) :
    At1 w wr (((wr.alloc (.cells (Qfr.item r x) 101)).setCell ⟨w.heap.size + 1, bs.length, none⟩ (ptr wr.heap.size)).alloc (.cells u t)) n v bs R X := by
  have hlo := h.lo
  have fr : Fr (fun k => k = w.heap.size + 1) wr (((wr.alloc (.cells (Qfr.item r x) 101)).setCell ⟨w.heap.size + 1, bs.length, none⟩ (ptr wr.heap.size)).alloc (.cells u t)) :=
    (((Fr.refl (fun k => k = w.heap.size + 1) wr).alloc _).setCell (p := ⟨w.heap.size + 1, bs.length, none⟩) (Or.inl rfl) _).alloc _
  refine ⟨fr, ?_, ?_, ?_, ?_, ?_⟩
  · have := (((h.olds.alloc (.cells (Qfr.item r x) 101)).set bs.length (ptr wr.heap.size)).alloc (.cells u t))
    refine this.congr fun j _ => ?_
    by_cases e : j = bs.length
    · subst e; simp [optPtr]
    · rw [if_neg e]
      by_cases e2 : j < bs.length
      · rw [List.getElem?_append_left e2]
      · rw [List.getElem?_eq_none (by omega), List.getElem?_eq_none (by simp; omega)]
  · have hn := heap_alloc_new wr (.cells (Qfr.item r x) 101)
    rw [hr, hx] at hn
    rw [Below.heap_alloc _ _ _ (by simp [World.setCell]), Below.heap_setCell _ _ _ _ (by show _ ≠ w.heap.size + 1; omega), hr, hx]
    exact hn
  · rw [fr.block _ (lt_of_block h.qc) (by omega)]; exact h.qc
  · exact own_of_block h.own fun g hg => fr.block g (h.own.lt g hg).2 (by have := (h.own.lt g hg).1; omega)
  · have := fr.size; omega

theorem Q1.next {w wr W w4 : World} {n : Nat} {v : Value} {bs : List Nat} {R X : Nat → Int} (h : Q1 w wr n v bs R X) (a : At1 w wr W n v bs R X) {g cap : Nat}
    (hown : w4.ownsRow (w.heap.size + 2) 43 1 (.slice (some ⟨g, 0, none⟩) (bs.length + 1) cap) (bs.length + 1) (bs.map ptr ++ [ptr wr.heap.size])) (hgrow : W.grownBy w4 v.ownBlock) :
    Hid (w4.cell? ⟨w.heap.size, 0, none⟩ = some v ∧ w4.frozen? ⟨w.heap.size, 0, none⟩ = false ∧
      Q1 w (w4.setCell ⟨w.heap.size, 0, none⟩ (.slice (some ⟨g, 0, none⟩) (bs.length + 1) cap)) n (.slice (some ⟨g, 0, none⟩) (bs.length + 1) cap) (bs ++ [wr.heap.size]) R X) := by
  have hlo := h.lo
  have keep : ∀ k, k < W.heap.size → v.ownBlock ≠ some k → w4.heap[k]? = W.heap[k]? := fun k hk hne => hgrow.block k hk (fun e => hne e.symm)
  have hq1 : w4.heap[w.heap.size]? = some (.cells #[v] 42 (0, 0)) := (keep _ (lt_of_block a.qc) (own_ne a.own a.qc (by decide))).trans a.qc
  have hol : ∀ k, v.ownBlock = some k → w.heap.size + 2 ≤ k := fun k hk => (a.own.lt k hk).1
  have hqn : (Value.slice (some ⟨g, 0, none⟩) (bs.length + 1) cap).ownBlock ≠ some w.heap.size := own_ne hown hq1 (by decide)
  have fr4 : Fr (fun k => k = w.heap.size + 1 ∨ v.ownBlock = some k) wr w4 := (a.fr.mono (fun k _ hk => Or.inl hk)).grown hgrow (fun k hk => Or.inl (Or.inr hk))
  have fr5 : Fr (fun k => k = w.heap.size + 1 ∨ v.ownBlock = some k ∨ k = w.heap.size) wr (w4.setCell ⟨w.heap.size, 0, none⟩ (.slice (some ⟨g, 0, none⟩) (bs.length + 1) cap)) :=
    (fr4.mono (fun k _ hk => by rcases hk with h | h; exact Or.inl h; exact Or.inr (Or.inl h))).setCell (Or.inl (Or.inr (Or.inr rfl))) _
  refine ⟨cell_of_one hq1, free_of_one hq1, ⟨?_, one_setCell hq1, ?_, ?_, ?_, ?_⟩⟩
  · exact fr5.below h.bel (fun k hk => by rcases hk with h1 | h1 | h1; omega; have := hol k h1; omega; omega)
  · have := ownsRow_setCell_other hown (a := ⟨w.heap.size, 0, none⟩) hqn (.slice (some ⟨g, 0, none⟩) (bs.length + 1) cap)
    simpa using this
  · refine (World.rowIs.of_block (w' := w4) a.olds (keep _ a.olds.lt (fun e => by have := hol _ e; omega))).setOther (by simp) _
  · intro i b hb
    have hbw : wr.heap.size ≤ b → b = wr.heap.size ∧ i = bs.length := by
      intro hge
      by_cases e : i < bs.length
      · rw [List.getElem?_append_left e] at hb
        have := lt_of_block (h.its i b hb)
        omega
      · have hi : i < (bs ++ [wr.heap.size]).length := (List.getElem?_eq_some_iff.1 hb).1
        simp at hi
        have e2 : i = bs.length := by omega
        subst e2
        simp at hb
        exact ⟨hb.symm, rfl⟩
    have hblk : W.heap[b]? = some (.cells (Qfr.item (R i) (X i)) 101 (0, 0)) := by
      by_cases e : i < bs.length
      · rw [List.getElem?_append_left e] at hb
        have hi := h.its i b hb
        rw [a.fr.block b (lt_of_block hi) (by
          rintro rfl
          obtain ⟨c, hc, _⟩ := h.olds
          rw [hc] at hi
          injection hi with hi
          injection hi with _ h2 _
          exact absurd h2 (by decide))]
        exact hi
      · have hi : i < (bs ++ [wr.heap.size]).length := (List.getElem?_eq_some_iff.1 hb).1
        simp at hi
        have e2 : i = bs.length := by omega
        subst e2
        simp at hb
        rw [← hb]
        exact a.pc
    have hn1 : b ≠ w.heap.size := by
      rintro rfl
      rw [a.qc] at hblk
      injection hblk with hblk
      injection hblk with _ h2 _
      exact absurd h2 (by decide)
    rw [Below.heap_setCell _ _ _ _ hn1, keep b (lt_of_block hblk) (own_ne a.own hblk (by decide))]
    exact hblk
  · intro i j b c hb hc hij
    have hj : j < (bs ++ [wr.heap.size]).length := (List.getElem?_eq_some_iff.1 hc).1
    simp at hj
    rw [List.getElem?_append_left (by omega)] at hb
    by_cases e : j < bs.length
    · rw [List.getElem?_append_left e] at hc
      exact h.inc i j b c hb hc hij
    · have e2 : j = bs.length := by omega
      subst e2
      simp at hc
      have := lt_of_block (h.its i b hb)
      omega

theorem At1.drew {w wr W : World} {n : Nat} {v : Value} {bs : List Nat} {R X : Nat → Int} (a : At1 w wr W n v bs R X) : At1 w wr W.drew n v bs R X := ⟨a.fr.drew, a.olds, a.pc, a.qc, a.own, a.base⟩

theorem news1 {W : World} {N : Nat} (hs : W.heap.size = N) (p : Nat) : ∀ j u, [ptr p][j]? = some u → (W.alloc (.cells #[ptr p] 43)).drew.cell? ((⟨N, 0, none⟩ : Addr).add j) = some u := by
  intro j u hj
  match j, hj with
  | 0, hj =>
    simp at hj
    subst hj
    have := heap_alloc_new W (.cells #[ptr p] 43)
    rw [hs] at this
    simpa [Addr.add] using cell_of_one this

theorem Q1.drewN {w wr : World} {n : Nat} {v : Value} {bs : List Nat} {R X : Nat → Int} (h : Q1 w wr n v bs R X) (m : Nat) : Q1 w (wr.drewN m) n v bs R X :=
  ⟨⟨h.bel.os, h.bel.tape, h.bel.output, h.bel.size, h.bel.block⟩, h.qc, h.own, h.olds, h.its, h.inc⟩

/-- a slice of pairs that came in: what the walk is told of it -/
def QRow (w : World) (a : Option Addr) (len : Nat) (R X : Nat → Int) : Prop :=
  ∀ i, i < len → ∃ b off, a = some ⟨b, off, none⟩ ∧ b < w.heap.size ∧ w.cell? ⟨b, off + i * 2, none⟩ = some (.int .i64 (R i)) ∧ w.cell? ⟨b, off + i * 2 + 1, none⟩ = some (.int .i64 (X i))

theorem idx39 {a : Option Addr} {b off : Nat} (ha : a = some ⟨b, off, none⟩) (len cap k : Nat) (hk : k < len) (w : World) :
    (Instr.indexAt 39 (.slice a len cap) (.int .i64 (k : Int))).run Try.prog w = .ok (.pointer (some ⟨b, off + k * 2, none⟩)) w := by
  subst ha
  rw [run_indexAt_slice w 39 _ len cap .i64 k (by kernel_rfl), if_pos (by omega)]
  have hz : (sizeOf (Try.prog.elem 39)).run Try.prog w = .ok 2 w := by kernel_rfl
  rw [hz]
  simp [Addr.add]

theorem bytes15_ok (a1 a2 : Option Addr) (l1 c1 l2 c2 : Nat) (h : l1 + l2 ≤ 1048576) (w : World) :
    Calls Try.prog 15 #[.slice a1 l1 c1, .slice a2 l2 c2] w fun e w' => e = .returned (.bool true) ∧ w = w' := by
  go_enter Try.func15, Try.ntmps15
  go_wp2
  go_ret
  exact ⟨rfl, rfl⟩
theorem bytes15_no (a1 a2 : Option Addr) (l1 c1 l2 c2 : Nat) (hm1 : l1 ≤ maxLen) (hm2 : l2 ≤ maxLen) (h : 1048576 < l1 + l2) (w : World) :
    Calls Try.prog 15 #[.slice a1 l1 c1, .slice a2 l2 c2] w fun e w' => e = .returned (.bool false) ∧ w = w' := by
  unfold maxLen at hm1 hm2
  by_cases h1 : 1048576 < l1
  · go_enter Try.func15, Try.ntmps15
    go_wp2
    go_ret
    exact ⟨rfl, rfl⟩
  · by_cases h2 : 1048576 < l2
    · go_enter Try.func15, Try.ntmps15
      go_wp2
      go_ret
      exact ⟨rfl, rfl⟩
    · go_enter Try.func15, Try.ntmps15
      go_wp2
      go_ret
      exact ⟨rfl, rfl⟩
theorem bytes20_ok (a1 : Option Addr) (l1 c1 : Nat) (p : Int) (h : l1 ≤ 1048576) (w : World) :
    Calls Try.prog 20 #[.slice a1 l1 c1, .int .i64 p] w fun e w' => e = .returned (.bool true) ∧ w = w' := by
  go_enter Try.func20, Try.ntmps20
  go_wp2
  go_ret
  exact ⟨rfl, rfl⟩
theorem bytes20_no (a1 : Option Addr) (l1 c1 : Nat) (p : Int) (h : 1048576 < l1) (w : World) :
    Calls Try.prog 20 #[.slice a1 l1 c1, .int .i64 p] w fun e w' => e = .returned (.bool false) ∧ w = w' := by
  go_enter Try.func20, Try.ntmps20
  go_wp2
  go_ret
  exact ⟨rfl, rfl⟩
end Go.Proofs.Qxb6613106a.Push
