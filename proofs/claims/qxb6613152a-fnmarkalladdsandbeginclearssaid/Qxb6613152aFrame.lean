import Derived.WalkKit
import Derived.Deep.OwnRows
import Derived.Below
import Derived.Deep.Draws
/-! A frame: which blocks may have turned. No program in sight. -/
namespace Go.Proofs.Qxb6613152a.Qfr
open Go.RowKit

/-- w' is w with new blocks, and with writes to the blocks in S alone -/
structure Fr (S : Nat → Prop) (w w' : World) : Prop where
  os : w'.os = w.os
  tape : w'.tape = w.tape
  output : w'.output = w.output
  size : w.heap.size ≤ w'.heap.size
  block : ∀ k, k < w.heap.size → ¬ S k → w'.heap[k]? = w.heap[k]?

theorem Fr.refl (S : Nat → Prop) (w : World) : Fr S w w := ⟨rfl, rfl, rfl, Nat.le_refl _, fun _ _ _ => rfl⟩
theorem Fr.step {S : Nat → Prop} {a b c : World} (h : Fr S a b) (os : c.os = b.os) (tape : c.tape = b.tape) (output : c.output = b.output) (size : b.heap.size ≤ c.heap.size)
    (block : ∀ k, k < a.heap.size → ¬ S k → c.heap[k]? = b.heap[k]?) : Fr S a c :=
  ⟨os.trans h.os, tape.trans h.tape, output.trans h.output, Nat.le_trans h.size size, fun k hk hs => (block k hk hs).trans (h.block k hk hs)⟩
theorem Fr.alloc {S : Nat → Prop} {a w : World} (h : Fr S a w) (o : Obj) : Fr S a (w.alloc o) :=
  h.step rfl rfl rfl (by simp) fun k hk _ => Below.heap_alloc _ _ _ (Nat.lt_of_lt_of_le hk h.size)
theorem Fr.drew {S : Nat → Prop} {a w : World} (h : Fr S a w) : Fr S a w.drew := ⟨h.os, h.tape, h.output, h.size, h.block⟩
theorem Fr.drewN {S : Nat → Prop} {a w : World} (h : Fr S a w) (n : Nat) : Fr S a (w.drewN n) := ⟨h.os, h.tape, h.output, h.size, h.block⟩
theorem Fr.setCell {S : Nat → Prop} {a w : World} (h : Fr S a w) {p : Addr} (hp : S p.block ∨ a.heap.size ≤ p.block) (u : Value) : Fr S a (w.setCell p u) :=
  h.step rfl rfl rfl (by simp [World.setCell]) fun k hk hs => Below.heap_setCell _ _ _ _ (by rintro rfl; rcases hp with hp | hp; exact hs hp; omega)
theorem Fr.grown {S : Nat → Prop} {a w w' : World} {row : Option Nat} (h : Fr S a w) (hg : w.grownBy w' row) (hr : ∀ k, row = some k → S k ∨ a.heap.size ≤ k) : Fr S a w' :=
  h.step hg.os hg.tape hg.output hg.size fun k hk hs => hg.block k (Nat.lt_of_lt_of_le hk h.size) (fun e => by rcases hr k e.symm with h' | h'; exact hs h'; omega)
theorem Fr.mono {S T : Nat → Prop} {a w : World} (h : Fr S a w) (hST : ∀ k, k < a.heap.size → S k → T k) : Fr T a w :=
  ⟨h.os, h.tape, h.output, h.size, fun k hk ht => h.block k hk (fun hs => ht (hST k hk hs))⟩
theorem Fr.trans {S T : Nat → Prop} {a b c : World} (h : Fr S a b) (k : Fr T b c) (hT : ∀ j, j < a.heap.size → T j → S j) : Fr S a c :=
  h.step k.os k.tape k.output k.size fun j hj hs => k.block j (Nat.lt_of_lt_of_le hj h.size) (fun ht => hs (hT j hj ht))
theorem Fr.below {S : Nat → Prop} {w a b : World} (hw : Below w.heap.size w a) (h : Fr S a b) (hS : ∀ k, S k → w.heap.size ≤ k) : Below w.heap.size w b :=
  hw.trans ⟨h.os, h.tape, h.output, h.size, fun k hk => h.block k (Nat.lt_of_lt_of_le hk hw.size) (fun hs => by have := hS k hs; omega)⟩

theorem Fr.cell {S : Nat → Prop} {a b : World} (h : Fr S a b) {p : Addr} {v : Value} (hc : a.cell? p = some v) (hs : ¬ S p.block) : b.cell? p = some v := by
  have hl := World.block_lt_of_cell? a p hc
  exact (World.cell?_of_block (w := a) (h.block p.block hl hs)).trans hc
theorem Fr.free {S : Nat → Prop} {a b : World} (h : Fr S a b) {p : Addr} (hl : p.block < a.heap.size) (hs : ¬ S p.block) : b.frozen? p = a.frozen? p :=
  World.frozen?_of_block (w := a) (h.block p.block hl hs)
theorem below_keeps {wa wb : World} (hb : Below wa.heap.size wa wb) {p : Addr} {v : Value} (h : wa.cell? p = some v) : wb.cell? p = some v :=
  (hb.cell (World.block_lt_of_cell? wa p h)).trans h
theorem cell1 {w : World} {p : Addr} {v : Value} (h : w.cell? p = some v) (o1 : Obj) : (w.alloc o1).cell? p = some v :=
  below_keeps ((Below.refl _ w).alloc (Nat.le_refl _) o1) h
end Go.Proofs.Qxb6613152a.Qfr
