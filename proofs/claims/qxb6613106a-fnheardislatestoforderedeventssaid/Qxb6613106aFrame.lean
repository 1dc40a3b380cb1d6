import Derived.WalkKit
import Derived.Deep.OwnRows
import Derived.Deep.AppendLies
import Derived.Deep.Draws
/-! A frame: which blocks may have turned. No program in sight. -/
namespace Go.Proofs.Qxb6613106a.Qfr
open Go.RowKit

/-- w' is w with new blocks, and with writes to the blocks in S alone -/
structure Fr (S : Nat → Prop) (w w' : World) : Prop where
  os : w'.os = w.os
  tape : w'.tape = w.tape
  output : w'.output = w.output
  size : w.heap.size ≤ w'.heap.size
  block : ∀ k, k < w.heap.size → ¬ S k → w'.heap[k]? = w.heap[k]?

theorem Fr.refl (S : Nat → Prop) (w : World) : Fr S w w := ⟨rfl, rfl, rfl, Nat.le_refl _, fun _ _ _ => rfl⟩
theorem Fr.step {S : Nat → Prop} {a b c : World} (h : Fr S a b) (os : c.os = b.os) (tape : c.tape = b.tape) (output : c.output = b.output) (size : b.heap.size ≤ c.heap.size)
    (block : ∀ k, k < a.heap.size → ¬ S k → c.heap[k]? = b.heap[k]?) : Fr S a c :=
  ⟨os.trans h.os, tape.trans h.tape, output.trans h.output, Nat.le_trans h.size size, fun k hk hs => (block k hk hs).trans (h.block k hk hs)⟩
theorem Fr.alloc {S : Nat → Prop} {a w : World} (h : Fr S a w) (o : Obj) : Fr S a (w.alloc o) :=
  h.step rfl rfl rfl (by simp) fun k hk _ => Below.heap_alloc _ _ _ (Nat.lt_of_lt_of_le hk h.size)
theorem Fr.drew {S : Nat → Prop} {a w : World} (h : Fr S a w) : Fr S a w.drew := ⟨h.os, h.tape, h.output, h.size, h.block⟩
theorem Fr.drewN {S : Nat → Prop} {a w : World} (h : Fr S a w) (n : Nat) : Fr S a (w.drewN n) := ⟨h.os, h.tape, h.output, h.size, h.block⟩
theorem Fr.setCell {S : Nat → Prop} {a w : World} (h : Fr S a w) {p : Addr} (hp : S p.block ∨ a.heap.size ≤ p.block) (u : Value) : Fr S a (w.setCell p u) :=
  h.step rfl rfl rfl (by simp [World.setCell]) fun k hk hs => Below.heap_setCell _ _ _ _ (by rintro rfl; rcases hp with hp | hp; exact hs hp; omega)
theorem Fr.grown {S : Nat → Prop} {a w w' : World} {row : Option Nat} (h : Fr S a w) (hg : w.grownBy w' row) (hr : ∀ k, row = some k → S k ∨ a.heap.size ≤ k) : Fr S a w' :=
  h.step hg.os hg.tape hg.output hg.size fun k hk hs => hg.block k (Nat.lt_of_lt_of_le hk h.size) (fun e => by rcases hr k e.symm with h' | h'; exact hs h'; omega)
theorem Fr.mono {S T : Nat → Prop} {a w : World} (h : Fr S a w) (hST : ∀ k, k < a.heap.size → S k → T k) : Fr T a w :=
  ⟨h.os, h.tape, h.output, h.size, fun k hk ht => h.block k hk (fun hs => ht (hST k hk hs))⟩
theorem Fr.trans {S T : Nat → Prop} {a b c : World} (h : Fr S a b) (k : Fr T b c) (hT : ∀ j, j < a.heap.size → T j → S j) : Fr S a c :=
  h.step k.os k.tape k.output k.size fun j hj hs => k.block j (Nat.lt_of_lt_of_le hj h.size) (fun ht => hs (hT j hj ht))
theorem Fr.below {S : Nat → Prop} {w a b : World} (hw : Below w.heap.size w a) (h : Fr S a b) (hS : ∀ k, S k → w.heap.size ≤ k) : Below w.heap.size w b :=
  hw.trans ⟨h.os, h.tape, h.output, h.size, fun k hk => h.block k (Nat.lt_of_lt_of_le hk hw.size) (fun hs => by have := hS k hs; omega)⟩

/-- what is owned stays owned where its own block stands -/
theorem own_of_block {w w' : World} {base : Nat} {e : TypeId} {size : Nat} {v : Value} {n : Nat} {xs : List Value} (h : w.ownsRow base e size v n xs) (hb : ∀ g, v.ownBlock = some g → w'.heap[g]? = w.heap[g]?) : w'.ownsRow base e size v n xs := by
  obtain ⟨h1, h2⟩ := h
  refine ⟨h1, ?_⟩
  rcases h2 with h2 | ⟨g, cap, cur, hv, hg, hh, r⟩
  · exact Or.inl h2
  · subst hv
    exact Or.inr ⟨g, cap, cur, rfl, hg, by rw [hb g rfl]; exact hh, r⟩

/-- the block of what is owned bears the element's type -/
theorem own_tag {w : World} {base : Nat} {e : TypeId} {size : Nat} {v : Value} {n : Nat} {xs : List Value} (h : w.ownsRow base e size v n xs) {g : Nat} (hg : v.ownBlock = some g) : ∃ cur, w.heap[g]? = some (.cells cur e (0, 0)) := by
  rcases h.2 with ⟨rfl, _⟩ | ⟨g', cap, cur, rfl, _, hh, _⟩
  · cases hg
  · have : g' = g := by simpa [Value.ownBlock] using hg
    subst this
    exact ⟨cur, hh⟩

/-- a block of another type is not the owned one -/
theorem own_ne {w : World} {base : Nat} {e : TypeId} {size : Nat} {v : Value} {n : Nat} {xs : List Value} (h : w.ownsRow base e size v n xs) {b : Nat} {c : Array Value} {t : TypeId} {m : Nat × Nat} (hb : w.heap[b]? = some (.cells c t m)) (ht : t ≠ e) : v.ownBlock ≠ some b := by
  intro hg
  obtain ⟨cur, hc⟩ := own_tag h hg
  rw [hc] at hb
  injection hb with hb
  injection hb with _ h2 _
  exact ht h2.symm

/-- what a value that owns n elements looks like -/
theorem own_form {w : World} {base : Nat} {e : TypeId} {size : Nat} {v : Value} {n : Nat} {xs : List Value} (h : w.ownsRow base e size v n xs) : ∃ a cap, v = .slice a n cap := by
  rcases h.2 with ⟨rfl, rfl⟩ | ⟨g, cap, _, rfl, _⟩
  · exact ⟨_, _, rfl⟩
  · exact ⟨_, _, rfl⟩

/-- a pointer to the head of a block -/
abbrev ptr (b : Nat) : Value := .pointer (some ⟨b, 0, none⟩)
theorem ptr_one (b : Nat) : (ptr b).oneCell' = true := rfl
theorem ptrs_one (bs : List Nat) : ∀ u ∈ bs.map ptr, u.oneCell' = true := by
  intro u hu
  obtain ⟨b, _, rfl⟩ := List.mem_map.1 hu
  rfl

/-- a read item's cells -/
def item (r x : Int) : Array Value := #[.pointer none, .int .u64 0, .int .i64 0, .pointer none, .int .i64 r, .int .i64 x]
theorem item_reads {w : World} {b : Nat} {r x : Int} {t : TypeId} (h : w.heap[b]? = some (.cells (item r x) t (0, 0))) : w.cell? ⟨b, 4, none⟩ = some (.int .i64 r) := by simp [World.cell?, h, item]
theorem item_index {w : World} {b : Nat} {r x : Int} {t : TypeId} (h : w.heap[b]? = some (.cells (item r x) t (0, 0))) : w.cell? ⟨b, 5, none⟩ = some (.int .i64 x) := by simp [World.cell?, h, item]
theorem item_free {w : World} {b j : Nat} {r x : Int} {t : TypeId} (h : w.heap[b]? = some (.cells (item r x) t (0, 0))) : w.frozen? ⟨b, j, none⟩ = false := by simp [World.frozen?, h]
theorem item_set {w : World} {b : Nat} {r x y : Int} {t : TypeId} (h : w.heap[b]? = some (.cells (item r x) t (0, 0))) : (w.setCell ⟨b, 5, none⟩ (.int .i64 y)).heap[b]? = some (.cells (item r y) t (0, 0)) := by
  rw [heap_setCell_same w b 5 _ t _ h]
  rfl
end Go.Proofs.Qxb6613106a.Qfr
