import Derived.Test.Qxb6613106aTimeAdd
import Derived.Deep.RegionHeld3
import Derived.Deep.QuietTactic
import Derived.BigQuiet
import Derived.Below
import Derived.WalkSmall
namespace Go.Proofs.Qxb6613106a.Tm
open Go.RowKit

theorem cell2 {w : World} {p : Addr} {v : Value} (h : w.cell? p = some v) (o1 o2 : Obj) : ((w.alloc o1).alloc o2).cell? p = some v := by
  have hl := World.block_lt_of_cell? w p h
  have hb : Below w.heap.size w ((w.alloc o1).alloc o2) := ((Below.refl _ w).alloc (Nat.le_refl _) o1).alloc (by simp) o2
  exact (hb.cell hl).trans h
theorem cell1 {w : World} {p : Addr} {v : Value} (h : w.cell? p = some v) (o1 : Obj) : (w.alloc o1).cell? p = some v := by
  have hl := World.block_lt_of_cell? w p h
  have hb : Below w.heap.size w (w.alloc o1) := (Below.refl _ w).alloc (Nat.le_refl _) o1
  exact (hb.cell hl).trans h
theorem cell4 {w : World} {p : Addr} {v : Value} (h : w.cell? p = some v) (o1 o2 o3 o4 : Obj) : ((((w.alloc o1).alloc o2).alloc o3).alloc o4).cell? p = some v := cell2 (cell2 h o1 o2) o3 o4

set_option maxHeartbeats 400000 in
theorem heard33_none (tb c : Nat) (a : Option Addr) (u : Int) (w : World) (hs : w.cell? ⟨tb, 58, none⟩ = some (.slice a 0 c))
    (u0 : w.cell? ⟨tb, 62, none⟩ = some (.int .u64 (u % 1000000000))) (u1 : w.cell? ⟨tb, 63, none⟩ = some (.int .i64 (u / 1000000000))) (u2 : w.cell? ⟨tb, 64, none⟩ = some (.pointer none)) :
    Calls Try.prog 33 #[.pointer (some ⟨tb, 0, none⟩)] w fun e w' => e = .returned (.agg (tc u)) ∧ Below w.heap.size w w' := by
  have s1 := fun o1 o2 => cell2 hs o1 o2
  have v0 := fun o1 => cell1 u0 o1
  have v1 := fun o1 => cell1 u1 o1
  have v2 := fun o1 => cell1 u2 o1
  unfold tc
  clear hs u0 u1 u2
  generalize u % 1000000000 = n at *
  generalize u / 1000000000 = s at *
  go_enter Try.func33, Try.ntmps33
  go_wp2
  go_quiet (fail)
  go_wp2
  refine bodyPost_ret (v := .agg #[.int .u64 n, .int .i64 s, .pointer none]) (by simp [results, Try.results33, go_sem]) rfl ⟨rfl, ?_⟩
  exact ((((below_drewN (((Below.refl _ w).alloc (Nat.le_refl _) _).alloc (by simp) _) nq).setCell (Nat.le_refl _) _).setCell (Nat.le_refl _) _).setCell (Nat.le_refl _) _)

theorem idx59 (g len cap k : Nat) (hk : k < len) (w : World) :
    (Instr.indexAt 59 (.slice (some ⟨g, 0, none⟩) len cap) (.int .i64 (k : Int))).run Try.prog w = .ok (.pointer (some ⟨g, k * 5, none⟩)) w := by
  rw [run_indexAt_slice w 59 _ len cap .i64 k (by kernel_rfl), if_pos (by omega)]
  have hz : (sizeOf (Try.prog.elem 59)).run Try.prog w = .ok 5 w := by kernel_rfl
  rw [hz]
  have : (⟨g, 0, none⟩ : Addr).add (k * 5) = ⟨g, k * 5, none⟩ := by unfold Addr.add; split <;> simp_all
  simp [this]
theorem wrapN (n : Nat) (h : n ≤ 1000000) : IntKind.i64.wrap (n : Int) = n := by rw [IntKind.wrap_i64]; omega

set_option maxHeartbeats 1000000 in
theorem heard33_some (tb g n c : Nat) (u r : Int) (w : World) (hn : n ≤ 1000000) (hs : w.cell? ⟨tb, 58, none⟩ = some (.slice (some ⟨g, 0, none⟩) (n + 1) c))
    (u0 : w.cell? ⟨tb, 62, none⟩ = some (.int .u64 (u % 1000000000))) (u1 : w.cell? ⟨tb, 63, none⟩ = some (.int .i64 (u / 1000000000))) (u2 : w.cell? ⟨tb, 64, none⟩ = some (.pointer none))
    (r0 : w.cell? ⟨g, n * 5 + 2, none⟩ = some (.int .u64 (r % 1000000000))) (r1 : w.cell? ⟨g, n * 5 + 2 + 1, none⟩ = some (.int .i64 (r / 1000000000))) (r2 : w.cell? ⟨g, n * 5 + 2 + 1 + 1, none⟩ = some (.pointer none)) :
    Calls Try.prog 33 #[.pointer (some ⟨tb, 0, none⟩)] w fun e w' => e = .returned (.agg (tc (if u < r then r else u))) ∧ Below w.heap.size w w' := by
  have s2 := fun o1 o2 => cell2 hs o1 o2
  have s4 := fun o1 o2 o3 o4 => cell4 hs o1 o2 o3 o4
  have p0 := fun o1 o2 => cell2 r0 o1 o2
  have p1 := fun o1 o2 => cell2 r1 o1 o2
  have p2 := fun o1 o2 => cell2 r2 o1 o2
  have x0 := fun o1 o2 o3 o4 => cell4 r0 o1 o2 o3 o4
  have x1 := fun o1 o2 o3 o4 => cell4 r1 o1 o2 o3 o4
  have x2 := fun o1 o2 o3 o4 => cell4 r2 o1 o2 o3 o4
  have v0 := fun o1 => cell1 u0 o1
  have v1 := fun o1 => cell1 u1 o1
  have v2 := fun o1 => cell1 u2 o1
  clear hs u0 u1 u2 r0 r1 r2
  have hd : decide ((0 : Int) < (n : Int) + 1) = true := decide_eq_true (by omega)
  have hix := idx59 g (n + 1) c n (by omega)
  have hw1 := wrapN n hn
  by_cases hc : u < r
  · rw [if_pos hc]
    have hdc : decide (u < r) = true := decide_eq_true hc
    clear hc
    go_enter Try.func33, Try.ntmps33
    go_wp2
    go_region_held3 (fun w' => w'.cell? ⟨tb, 58, none⟩ = some (.slice (some ⟨g, 0, none⟩) (n + 1) c) ∧ w'.cell? ⟨g, n * 5 + 2, none⟩ = some (.int .u64 (r % 1000000000)) ∧ w'.cell? ⟨g, n * 5 + 2 + 1, none⟩ = some (.int .i64 (r / 1000000000)) ∧ w'.cell? ⟨g, n * 5 + 2 + 1 + 1, none⟩ = some (.pointer none) ∧ w'.cell? ⟨w.heap.size + 1, 0, none⟩ = some (.int .u64 (u % 1000000000)) ∧ w'.cell? ⟨w.heap.size + 1, 1, none⟩ = some (.int .i64 (u / 1000000000)) ∧ w'.cell? ⟨w.heap.size + 1, 2, none⟩ = some (.pointer none)) (simp [go_sem, *])
      ((go_at_call 37; refine (after_any r u _).mono ?_; rintro e w' ⟨rfl, rfl⟩))
    rename_i hHeld
    clear hHeld
    go_wp2
    refine bodyPost_ret (v := .agg #[.int .u64 (r % 1000000000), .int .i64 (r / 1000000000), .pointer none]) (by simp [results, Try.results33, go_sem]) rfl ⟨rfl, ?_⟩
    exact (((((Below.refl _ w).alloc (Nat.le_refl _) _).alloc (by simp) _).alloc (by simp; omega) _).alloc (by simp; omega) _).drew
  · rw [if_neg hc]
    have hdc : decide (u < r) = false := decide_eq_false hc
    clear hc
    go_enter Try.func33, Try.ntmps33
    go_wp2
    go_region_held3 (fun w' => w'.cell? ⟨tb, 58, none⟩ = some (.slice (some ⟨g, 0, none⟩) (n + 1) c) ∧ w'.cell? ⟨g, n * 5 + 2, none⟩ = some (.int .u64 (r % 1000000000)) ∧ w'.cell? ⟨g, n * 5 + 2 + 1, none⟩ = some (.int .i64 (r / 1000000000)) ∧ w'.cell? ⟨g, n * 5 + 2 + 1 + 1, none⟩ = some (.pointer none) ∧ w'.cell? ⟨w.heap.size + 1, 0, none⟩ = some (.int .u64 (u % 1000000000)) ∧ w'.cell? ⟨w.heap.size + 1, 1, none⟩ = some (.int .i64 (u / 1000000000)) ∧ w'.cell? ⟨w.heap.size + 1, 2, none⟩ = some (.pointer none)) (simp [go_sem, *])
      ((go_at_call 37; refine (after_any r u _).mono ?_; rintro e w' ⟨rfl, rfl⟩))
    rename_i hHeld
    clear hHeld
    go_wp2
    refine bodyPost_ret (v := .agg #[.int .u64 (u % 1000000000), .int .i64 (u / 1000000000), .pointer none]) (by simp [results, Try.results33, go_sem]) rfl ⟨rfl, ?_⟩
    exact (((((Below.refl _ w).alloc (Nat.le_refl _) _).alloc (by simp) _).alloc (by simp; omega) _).alloc (by simp; omega) _).drew

/-- what 'ZZheard' is told of the transfer it is handed -/
def TrAt (w : World) (tb : Nat) (u : Int) (v : Value) : Prop :=
  w.cell? ⟨tb, 58, none⟩ = some v ∧ w.cell? ⟨tb, 62, none⟩ = some (.int .u64 (u % 1000000000)) ∧ w.cell? ⟨tb, 63, none⟩ = some (.int .i64 (u / 1000000000)) ∧ w.cell? ⟨tb, 64, none⟩ = some (.pointer none)

theorem heard_wrap (tb : Nat) (d : Int) (w : World) (h : ∀ W, W = w.alloc (.cells #[.int .u64 0, .int .i64 0, .pointer none] 56) → Calls Try.prog 33 #[.pointer (some ⟨tb, 0, none⟩)] W fun e w' => e = .returned (.agg (tc d)) ∧ Below W.heap.size W w') :
    Calls Try.prog 23 #[.pointer (some ⟨tb, 0, none⟩)] w fun e w' => e = .returned (.agg (tc d)) ∧ Below w.heap.size w w' := by
  have H : Hid (∀ W, W = w.alloc (.cells #[.int .u64 0, .int .i64 0, .pointer none] 56) → Calls Try.prog 33 #[.pointer (some ⟨tb, 0, none⟩)] W fun e w' => e = .returned (.agg (tc d)) ∧ Below W.heap.size W w') := h
  clear h
  go_enter Try.func23, Try.ntmps23
  go_wp2_with fail
  refine (H.out _ rfl).mono ?_
  rintro e w1 ⟨rfl, hb⟩
  have c0 : w1.cell? ⟨w.heap.size, 0, none⟩ = some (.int .u64 0) := (hb.cell (p := ⟨w.heap.size, 0, none⟩) (by simp)).trans (by simp)
  have c1 : w1.cell? ⟨w.heap.size, 1, none⟩ = some (.int .i64 0) := (hb.cell (p := ⟨w.heap.size, 1, none⟩) (by simp)).trans (by simp)
  have c2 : w1.cell? ⟨w.heap.size, 2, none⟩ = some (.pointer none) := (hb.cell (p := ⟨w.heap.size, 2, none⟩) (by simp)).trans (by simp)
  have f0 : w1.frozen? ⟨w.heap.size, 0, none⟩ = false := (hb.frozen (p := ⟨w.heap.size, 0, none⟩) (by simp)).trans (by simp)
  have f1 : w1.frozen? ⟨w.heap.size, 1, none⟩ = false := (hb.frozen (p := ⟨w.heap.size, 1, none⟩) (by simp)).trans (by simp)
  have f2 : w1.frozen? ⟨w.heap.size, 2, none⟩ = false := (hb.frozen (p := ⟨w.heap.size, 2, none⟩) (by simp)).trans (by simp)
  have HB : Hid (Below (w.alloc (.cells #[.int .u64 0, .int .i64 0, .pointer none] 56)).heap.size (w.alloc (.cells #[.int .u64 0, .int .i64 0, .pointer none] 56)) w1) := hb
  clear hb H
  unfold tc
  go_wp2
  refine bodyPost_ret (v := .agg #[.int .u64 (d % 1000000000), .int .i64 (d / 1000000000), .pointer none]) (by simp [results, Try.results23, go_sem, c0, c1, c2]) rfl ⟨rfl, ?_⟩
  exact ((((((Below.refl _ w).alloc (Nat.le_refl _) _).trans (HB.out.mono (by simp))).setCell (Nat.le_refl _) _).setCell (Nat.le_refl _) _).setCell (Nat.le_refl _) _)

theorem heard_none (tb c : Nat) (a : Option Addr) (u : Int) (w : World) (h : TrAt w tb u (.slice a 0 c)) :
    Calls Try.prog 23 #[.pointer (some ⟨tb, 0, none⟩)] w fun e w' => e = .returned (.agg (tc u)) ∧ Below w.heap.size w w' :=
  heard_wrap tb u w fun W hW => by
    subst hW
    exact heard33_none tb c a u _ (cell1 h.1 _) (cell1 h.2.1 _) (cell1 h.2.2.1 _) (cell1 h.2.2.2 _)

theorem heard_some (tb g n c : Nat) (u r : Int) (w : World) (hn : n ≤ 1000000) (h : TrAt w tb u (.slice (some ⟨g, 0, none⟩) (n + 1) c))
    (r0 : w.cell? ⟨g, n * 5 + 2, none⟩ = some (.int .u64 (r % 1000000000))) (r1 : w.cell? ⟨g, n * 5 + 2 + 1, none⟩ = some (.int .i64 (r / 1000000000))) (r2 : w.cell? ⟨g, n * 5 + 2 + 1 + 1, none⟩ = some (.pointer none)) :
    Calls Try.prog 23 #[.pointer (some ⟨tb, 0, none⟩)] w fun e w' => e = .returned (.agg (tc (if u < r then r else u))) ∧ Below w.heap.size w w' :=
  heard_wrap tb _ w fun W hW => by
    subst hW
    exact heard33_some tb g n c u r _ hn (cell1 h.1 _) (cell1 h.2.1 _) (cell1 h.2.2.1 _) (cell1 h.2.2.2 _) (cell1 r0 _) (cell1 r1 _) (cell1 r2 _)
end Go.Proofs.Qxb6613106a.Tm
