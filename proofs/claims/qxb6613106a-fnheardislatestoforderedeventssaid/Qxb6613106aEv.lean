import Derived.Test.Qxb6613106aHeard
import Derived.Test.Qxb6613106aFrame
import Derived.Deep.AppendLies
namespace Go.Proofs.Qxb6613106a.Tm
open Go.RowKit Qfr

theorem bytes21_ok (a1 : Option Addr) (l1 c1 : Nat) (p q : Int) (h : l1 ≤ 1048576) (w : World) :
    Calls Try.prog 21 #[.int .i64 p, .slice a1 l1 c1, .int .i64 q] w fun e w' => e = .returned (.bool true) ∧ w = w' := by
  go_enter Try.func21, Try.ntmps21
  go_wp2
  go_ret
  exact ⟨rfl, rfl⟩
theorem bytes21_no (a1 : Option Addr) (l1 c1 : Nat) (p q : Int) (h : 1048576 < l1) (w : World) :
    Calls Try.prog 21 #[.int .i64 p, .slice a1 l1 c1, .int .i64 q] w fun e w' => e = .returned (.bool false) ∧ w = w' := by
  go_enter Try.func21, Try.ntmps21
  go_wp2
  go_ret
  exact ⟨rfl, rfl⟩

theorem add0x (d : Int) (h0 : -9223372036854775808 ≤ d) (h1 : d ≤ 9223372036854775807) (w : World) :
    Calls Try.prog 22 #[.agg #[.int .u64 0, .int .i64 0, .pointer none], .int .i64 d] w fun e w' => e = .returned (.agg #[.int .u64 (d % 1000000000), .int .i64 (d / 1000000000), .pointer none]) ∧
      w' = (w.alloc (.cells #[.int .u64 (d % 1000000000), .int .i64 (d / 1000000000), .pointer none] 56)).alloc (.cells #[.int .u64 (d % 1000000000), .int .i64 (d / 1000000000), .pointer none] 56) := add0 d h0 h1 w

/-- an event's zero cells -/
abbrev ev0 : Array Value := #[.string ⟨#[]⟩, .string ⟨#[]⟩, .int .u64 0, .int .i64 0, .pointer none]
/-- an event received at d -/
abbrev evc (d : Int) : List Value := [.string ⟨#[]⟩, .string ⟨#[]⟩, .int .u64 (d % 1000000000), .int .i64 (d / 1000000000), .pointer none]

theorem info61 : (Try.prog.info? 61).map (fun i => (i.zero, i.size, i.bytes)) = some (some (.agg ev0), 5, 56) := by kernel_rfl
theorem mk59 (n : Nat) (h : n ≤ 1000000) (w : World) :
    (Instr.makeSlice 59 (.int .i64 0) (.int .i64 ((n : Int) + 1))).run Try.prog w = .ok (.slice (some ⟨w.heap.size, 0, none⟩) 0 (n + 1)) (w.alloc (.cells (madeCells ev0 ((n + 1) * 5)) 61)) := by
  obtain ⟨i0, hi, hz0, hz1, hz2⟩ := info_parts info61
  have := run_make (P := Try.prog) w 59 61 i0 (.agg ev0) Try.underlying59 hi hz0 .i64 .i64 0 ((n : Int) + 1) (by omega) (by omega) (by rw [hz2]; omega) (by omega)
  rw [hz1] at this
  have e : ((n : Int) + 1).toNat = n + 1 := by omega
  rw [e] at this
  exact this

/-- a slice of integers that came in -/
def RR (w : World) (a : Option Addr) (len : Nat) (z : Nat → Int) : Prop :=
  ∀ i, i < len → ∃ b off, a = some ⟨b, off, none⟩ ∧ b < w.heap.size ∧ w.cell? ⟨b, off + i, none⟩ = some (.int .i64 (z i)) ∧ -9223372036854775808 ≤ z i ∧ z i ≤ 9223372036854775807

theorem idx51 {a : Option Addr} {b off : Nat} (ha : a = some ⟨b, off, none⟩) (len cap k : Nat) (hk : k < len) (w : World) :
    (Instr.indexAt 51 (.slice a len cap) (.int .i64 (k : Int))).run Try.prog w = .ok (.pointer (some ⟨b, off + k, none⟩)) w := by
  subst ha
  rw [run_indexAt_slice w 51 _ len cap .i64 k (by kernel_rfl), if_pos (by omega)]
  have hz : (sizeOf (Try.prog.elem 51)).run Try.prog w = .ok 1 w := by kernel_rfl
  rw [hz]
  simp [Addr.add]

theorem cell3 {w : World} {p : Addr} {v : Value} (h : w.cell? p = some v) (o1 o2 o3 : Obj) : (((w.alloc o1).alloc o2).alloc o3).cell? p = some v := cell1 (cell2 h o1 o2) o3

/-- the cells of a time, spelt out -/
abbrev tcx (d : Int) : Array Value := #[.int .u64 (d % 1000000000), .int .i64 (d / 1000000000), .pointer none]
abbrev tz : Array Value := #[.int .u64 0, .int .i64 0, .pointer none]

theorem tm_cells {w : World} {b : Nat} {x y z : Value} {t : TypeId} (h : w.heap[b]? = some (.cells #[x, y, z] t (0, 0))) :
    w.cell? ⟨b, 0, none⟩ = some x ∧ w.cell? ⟨b, 1, none⟩ = some y ∧ w.cell? ⟨b, 2, none⟩ = some z := by
  refine ⟨?_, ?_, ?_⟩ <;> simp [World.cell?, h]

/-- what the loop of the law over events keeps -/
structure E1 (w wr : World) (U Rb E : Nat) (v : Value) (k : Nat) (u r : Int) : Prop where
  bel : Below w.heap.size w wr
  b0 : wr.heap[w.heap.size]? = some (.cells tz 56 (0, 0))
  bu : wr.heap[U]? = some (.cells (tcx u) 56 (0, 0))
  br : wr.heap[Rb]? = some (.cells (tcx r) 56 (0, 0))
  own : ∃ xs, wr.ownsRow E 61 5 v k xs
  lo : w.heap.size < E ∧ E ≤ wr.heap.size

theorem E1.next {w wr W w4 : World} {U Rb E k g cap : Nat} {v : Value} {u r : Int} {xs : List Value} (h : E1 w wr U Rb E v k u r) (hfr : Fr (fun _ => False) wr W) (how : W.ownsRow E 61 5 v k xs)
    (hown : ∃ ys, w4.ownsRow E 61 5 (.slice (some ⟨g, 0, none⟩) (k + 1) cap) (k + 1) ys) (hgrow : W.grownBy w4 v.ownBlock) : E1 w w4 U Rb E (.slice (some ⟨g, 0, none⟩) (k + 1) cap) (k + 1) u r := by
  have keep : ∀ (b : Nat) (c : Array Value), wr.heap[b]? = some (.cells c 56 (0, 0)) → w4.heap[b]? = some (.cells c 56 (0, 0)) := by
    intro b c hb
    have hW : W.heap[b]? = some (.cells c 56 (0, 0)) := (hfr.block b (lt_of_block hb) (fun f => f)).trans hb
    exact (hgrow.block b (lt_of_block hW) (fun e => own_ne how hW (by decide) e.symm)).trans hW
  refine ⟨?_, keep _ _ h.b0, keep _ _ h.bu, keep _ _ h.br, hown, h.lo.1, ?_⟩
  · have f4 : Fr (fun j => v.ownBlock = some j) wr w4 := (hfr.mono (fun _ _ f => f.elim)).grown hgrow (fun j hj => Or.inl hj)
    exact f4.below h.bel (fun j hj => by
      have := (how.lt j hj).1
      have := h.lo.1
      omega)
  · have := hfr.size
    have := hgrow.size
    have := h.lo.2
    omega

theorem E1.start (w : World) (u r : Int) (n : Nat) (hn : n ≤ 1000000) :
    E1 w ((((((((w.alloc (.cells tz 56)).alloc (.cells (tcx u) 56)).alloc (.cells (tcx u) 56)).alloc (.cells (tcx u) 56)).alloc (.cells (tcx r) 56)).alloc (.cells (tcx r) 56)).alloc (.cells (tcx r) 56)).alloc (.cells (madeCells ev0 ((n + 1) * 5)) 61))
      (w.heap.size + 1 + 1 + 1) (w.heap.size + 1 + 1 + 1 + 1 + 1 + 1) (w.heap.size + 1 + 1 + 1 + 1 + 1 + 1 + 1) (.slice (some ⟨w.heap.size + 1 + 1 + 1 + 1 + 1 + 1 + 1, 0, none⟩) 0 (n + 1)) 0 u r := by
  refine ⟨?_, ?_, ?_, ?_, ⟨[], ?_⟩, by omega, by simp⟩
  · exact (((((((((Below.refl _ w).alloc (Nat.le_refl _) _).alloc (by simp) _).alloc (by simp; omega) _).alloc (by simp; omega) _).alloc (by simp; omega) _).alloc (by simp; omega) _).alloc (by simp; omega) _).alloc (by simp; omega) _)
  · iterate 7 rw [Below.heap_alloc _ _ _ (by simp <;> omega)]
    exact heap_alloc_new w _
  · iterate 4 rw [Below.heap_alloc _ _ _ (by simp)]
    have := heap_alloc_new (((w.alloc (.cells tz 56)).alloc (.cells (tcx u) 56)).alloc (.cells (tcx u) 56)) (.cells (tcx u) 56)
    simpa using this
  · rw [Below.heap_alloc _ _ _ (by simp)]
    have := heap_alloc_new ((((((w.alloc (.cells tz 56)).alloc (.cells (tcx u) 56)).alloc (.cells (tcx u) 56)).alloc (.cells (tcx u) 56)).alloc (.cells (tcx r) 56)).alloc (.cells (tcx r) 56)) (.cells (tcx r) 56)
    simpa using this
  · have := World.ownsRow_made (base := w.heap.size + 1 + 1 + 1 + 1 + 1 + 1 + 1) (e := 61) (size := 5) (((((((w.alloc (.cells tz 56)).alloc (.cells (tcx u) 56)).alloc (.cells (tcx u) 56)).alloc (.cells (tcx u) 56)).alloc (.cells (tcx r) 56)).alloc (.cells (tcx r) 56)).alloc (.cells (tcx r) 56)) (madeCells ev0 ((n + 1) * 5)) (n + 1) (by simp) (by unfold maxLen; omega) (size_madeCells _ _)
    simpa using this

theorem E1.hid {w wr : World} {U Rb E k : Nat} {v : Value} {u r : Int} (h : E1 w wr U Rb E v k u r) : Hid (E1 w wr U Rb E v k u r) := h

theorem fr_allocs2 (w : World) (o1 o2 : Obj) : Fr (fun _ => False) w ((w.alloc o1).alloc o2) := ((Fr.refl _ w).alloc _).alloc _

theorem news61 {W : World} {N : Nat} (hs : W.heap.size = N) (d : Int) : ∀ j u, (evc d)[j]? = some u → (W.alloc (.cells #[.string ⟨#[]⟩, .string ⟨#[]⟩, .int .u64 (d % 1000000000), .int .i64 (d / 1000000000), .pointer none] 61)).cell? ((⟨N, 0, none⟩ : Addr).add j) = some u := by
  intro j u hj
  have hadd : (⟨N, 0, none⟩ : Addr).add j = ⟨N, j, none⟩ := by unfold Addr.add; split <;> simp_all
  have hn := heap_alloc_new W (.cells #[.string ⟨#[]⟩, .string ⟨#[]⟩, .int .u64 (d % 1000000000), .int .i64 (d / 1000000000), .pointer none] 61)
  rw [hs] at hn
  rw [hadd, cell_of_row _ _ _ _ _ _ hn]
  simpa using hj
theorem evc_one (d : Int) : ∀ u ∈ evc d, u.oneCell' = true := by
  intro u hu
  simp at hu
  rcases hu with rfl | rfl | rfl | rfl <;> rfl

/-- a world that holds both times, and the last event of the list -/
structure F1 (w w4 : World) (U Rb g k : Nat) (u r : Int) : Prop where
  bel : Below w.heap.size w w4
  lt : w.heap.size ≤ w4.heap.size
  cu : w4.cell? ⟨U, 0, none⟩ = some (.int .u64 (u % 1000000000)) ∧ w4.cell? ⟨U, 1, none⟩ = some (.int .i64 (u / 1000000000)) ∧ w4.cell? ⟨U, 2, none⟩ = some (.pointer none)
  cr : w4.cell? ⟨Rb, 0, none⟩ = some (.int .u64 (r % 1000000000)) ∧ w4.cell? ⟨Rb, 1, none⟩ = some (.int .i64 (r / 1000000000)) ∧ w4.cell? ⟨Rb, 2, none⟩ = some (.pointer none)
  ce : w4.cell? ⟨g, k * 5 + 2, none⟩ = some (.int .u64 (r % 1000000000)) ∧ w4.cell? ⟨g, k * 5 + 2 + 1, none⟩ = some (.int .i64 (r / 1000000000)) ∧ w4.cell? ⟨g, k * 5 + 2 + 1 + 1, none⟩ = some (.pointer none)

theorem F1.hid {w wr : World} {U Rb g k : Nat} {u r : Int} (h : F1 w wr U Rb g k u r) : Hid (F1 w wr U Rb g k u r) := h

theorem below_keeps {wa wb : World} (hb : Below wa.heap.size wa wb) {p : Addr} {v : Value} (h : wa.cell? p = some v) : wb.cell? p = some v :=
  (hb.cell (World.block_lt_of_cell? wa p h)).trans h

theorem F1.keep {w wa wb : World} {U Rb g k : Nat} {u r : Int} (h : F1 w wa U Rb g k u r) (hb : Below wa.heap.size wa wb) : F1 w wb U Rb g k u r :=
  ⟨h.bel.trans (hb.mono h.lt), Nat.le_trans h.lt hb.size, ⟨below_keeps hb h.cu.1, below_keeps hb h.cu.2.1, below_keeps hb h.cu.2.2⟩, ⟨below_keeps hb h.cr.1, below_keeps hb h.cr.2.1, below_keeps hb h.cr.2.2⟩, ⟨below_keeps hb h.ce.1, below_keeps hb h.ce.2.1, below_keeps hb h.ce.2.2⟩⟩

theorem F1.start {w wr W w4 : World} {U Rb E k g cap : Nat} {v : Value} {u r : Int} {xs : List Value} (h : E1 w wr U Rb E v k u r) (hfr : Fr (fun _ => False) wr W) (how : W.ownsRow E 61 5 v k xs)
    (hown : w4.ownsRow E 61 5 (.slice (some ⟨g, 0, none⟩) (k + 1) cap) (k + 1) (xs ++ evc r)) (hgrow : W.grownBy w4 v.ownBlock) : F1 w w4 U Rb g k u r := by
  have hn := h.next hfr how ⟨_, hown⟩ hgrow
  have hl : xs.length = k * 5 := how.1
  refine ⟨hn.bel, ?_, tm_cells hn.bu, tm_cells hn.br, ?_⟩
  · have := hn.lo
    omega
  · rcases hown.2 with ⟨h0, _⟩ | ⟨g', cap', cur, hv, _, hg, _, _, hcs, ht⟩
    · exact absurd h0 (by simp)
    · injection hv with e1 _ e3
      injection e1 with e1
      injection e1 with e1
      subst e1
      have key : ∀ j v, (evc r)[j]? = some v → w4.cell? ⟨g, k * 5 + j, none⟩ = some v := by
        intro j v hj
        have hj5 : j < 5 := by
          have := (List.getElem?_eq_some_iff.1 hj).1
          simpa using this
        have h1 : (xs ++ evc r)[k * 5 + j]? = some v := by
          rw [List.getElem?_append_right (by omega), hl, Nat.add_sub_cancel_left]
          exact hj
        rw [← ht, List.getElem?_take_of_lt (by omega)] at h1
        rw [cell_of_row _ _ _ _ _ _ hg]
        simpa using h1
      exact ⟨key 2 _ rfl, key 3 _ rfl, key 4 _ rfl⟩
end Go.Proofs.Qxb6613106a.Tm
