import Derived.Test.Qxb6613152aMa
namespace Go.Proofs.Qxb6613152a.Wk
open Go.RowKit Qfr

theorem bytes7_ok (a1 a2 : Option Addr) (l1 c1 l2 c2 : Nat) (m : Int) (h1 : l1 ≤ 1048576) (h2 : l2 ≤ 1048576) (h3 : l1 + l2 ≤ 1048576) (w : World) :
    Calls Try.prog 7 #[.slice a1 l1 c1, .int .u32 m, .slice a2 l2 c2] w fun e w' => e = .returned (.bool true) ∧ w = w' := by
  have e1 : IntKind.i64.wrap ((l1 : Int) + (l2 : Int)) = (l1 : Int) + l2 := by rw [IntKind.wrap_i64]; omega
  go_enter Try.func7, Try.ntmps7
  go_wp2
  go_ret
  exact ⟨rfl, rfl⟩

theorem info23 : (Try.prog.info? 23).map (fun i => (i.zero, i.size, i.bytes)) = some (some (.int .u32 0), 1, 4) := by kernel_rfl
theorem info4 : (Try.prog.info? 4).map (fun i => (i.zero, i.size, i.bytes)) = some (some (.bool false), 1, 1) := by kernel_rfl
theorem mk22 (n : Nat) (h : n ≤ 1000000) (w : World) :
    (Instr.makeSlice 22 (.int .i64 (n : Int)) (.int .i64 (n : Int))).run Try.prog w = .ok (.slice (some ⟨w.heap.size, 0, none⟩) n n) (w.alloc (.cells (madeCells #[.int .u32 0] n) 23)) := by
  obtain ⟨i0, hi, hz0, hz1, hz2⟩ := info_parts info23
  have := run_make (P := Try.prog) w 22 23 i0 (.int .u32 0) Try.underlying22 hi hz0 .i64 .i64 (n : Int) (n : Int) (by omega) (by omega) (by rw [hz2]; omega) (by omega)
  rw [hz1] at this
  have e : (n : Int).toNat = n := by omega
  rw [e, Nat.mul_one] at this
  exact this
theorem mk26 (n : Nat) (h : n ≤ 1000000) (w : World) :
    (Instr.makeSlice 26 (.int .i64 (n : Int)) (.int .i64 (n : Int))).run Try.prog w = .ok (.slice (some ⟨w.heap.size, 0, none⟩) n n) (w.alloc (.cells (madeCells #[.bool false] n) 4)) := by
  obtain ⟨i0, hi, hz0, hz1, hz2⟩ := info_parts info4
  have := run_make (P := Try.prog) w 26 4 i0 (.bool false) Try.underlying26 hi hz0 .i64 .i64 (n : Int) (n : Int) (by omega) (by omega) (by rw [hz2]; omega) (by omega)
  rw [hz1] at this
  have e : (n : Int).toNat = n := by omega
  rw [e, Nat.mul_one] at this
  exact this

/-- what the loop of 'cloneU32' keeps -/
structure CL (W wr : World) (g n k : Nat) (f : Nat → Int) : Prop where
  bel : Below W.heap.size W wr
  lo : W.heap.size ≤ g
  glt : g < wr.heap.size
  made : ∀ i, i < k → wr.cell? ⟨g, i, none⟩ = some (.int .u32 (f i))
  room : ∀ i, i < n → ∃ v, wr.cell? ⟨g, i, none⟩ = some v
  fz : ∀ x, wr.frozen? ⟨g, x, none⟩ = false
theorem CL.hid {W wr : World} {g n k : Nat} {f : Nat → Int} (h : CL W wr g n k f) : Hid (CL W wr g n k f) := h
theorem CL.start (W : World) (n : Nat) (f : Nat → Int) : CL W (W.alloc (.cells (madeCells #[.int .u32 0] n) 23)) W.heap.size n 0 f := by
  have hE := heap_alloc_new W (.cells (madeCells #[.int .u32 0] n) 23)
  refine ⟨(Below.refl _ W).alloc (Nat.le_refl _) _, Nat.le_refl _, by simp, fun i hi => absurd hi (by omega), fun i hi => ?_, fun x => ?_⟩
  · rw [cell_of_row _ _ _ _ _ _ hE]
    have : i < (madeCells #[.int .u32 0] n).size := by rw [size_madeCells]; exact hi
    exact ⟨_, Array.getElem?_eq_getElem this⟩
  · unfold World.frozen?
    simp only [hE]
    simp
theorem CL.step {W wr : World} {g n k : Nat} {f : Nat → Int} (h : CL W wr g n k f) (hk : k < n) : CL W (wr.setCell ⟨g, k, none⟩ (.int .u32 (f k))) g n (k + 1) f := by
  obtain ⟨v, hv⟩ := h.room k hk
  refine ⟨h.bel.setCell h.lo _, h.lo, by simpa using h.glt, fun i hi => ?_, fun i hi => ?_, fun x => by simp [h.fz x]⟩
  · by_cases e : i = k
    · subst e
      exact World.cell?_setCell_same _ _ _ hv
    · rw [set_oth _ _ _ _ _ (fun e' => e e'.symm)]
      exact h.made i (by omega)
  · obtain ⟨v', hv'⟩ := h.room i hi
    exact cell?_setCell_some hv'

theorem idx22i (g len cap k : Nat) (hk : k < len) (w : World) :
    (Instr.indexAt 22 (.slice (some ⟨g, 0, none⟩) len cap) (.int .i64 (k : Int))).run Try.prog w = .ok (.pointer (some ⟨g, k, none⟩)) w := by
  have := idx22 (a := some ⟨g, 0, none⟩) rfl len cap k hk w
  rwa [Nat.zero_add] at this

theorem eql_some (x : Addr) (n c : Nat) (w : World) : (binOp .eql 22 (.slice (some x) n c) (.slice none 0 0)).run Try.prog w = .ok (.bool false) w := by kernel_rfl
theorem eql_none (w : World) : (binOp .eql 22 (.slice none 0 0) (.slice none 0 0)).run Try.prog w = .ok (.bool true) w := by kernel_rfl
theorem neq_some (x : Addr) (n c : Nat) (w : World) : (binOp .neq 22 (.slice (some x) n c) (.slice none 0 0)).run Try.prog w = .ok (.bool true) w := by kernel_rfl
theorem neq_none (w : World) : (binOp .neq 22 (.slice none 0 0) (.slice none 0 0)).run Try.prog w = .ok (.bool false) w := by kernel_rfl

/-- the row that 'cloneU32' gives -/
structure OW (W w' : World) (a : Option Addr) (n : Nat) (f : Nat → Int) : Prop where
  bel : Below W.heap.size W w'
  new : ∀ x, a = some x → W.heap.size ≤ x.block ∧ x.block < w'.heap.size
  row : ∀ i, i < n → ∃ g, a = some ⟨g, 0, none⟩ ∧ w'.cell? ⟨g, i, none⟩ = some (.int .u32 (f i)) ∧ w'.frozen? ⟨g, i, none⟩ = false

set_option maxRecDepth 10000 in
set_option maxHeartbeats 1000000 in
theorem clone8_some (x : Addr) (n c : Nat) (f : Nat → Int) (W : World) (hn : n ≤ 65536) (hr : RW W (some x) n f) :
    Calls Try.prog 8 #[.slice (some x) n c] W fun e w' => ∃ a, e = .returned (.slice a n n) ∧ OW W w' a n f := by
  have HR : Hid (RW W (some x) n f) := hr
  have hmk := mk22 n (by omega)
  have hnil := eql_some x n c
  clear hr
  go_enter Try.func8, Try.ntmps8
  go_wp2_with fail
  have HS := CL.hid (CL.start W n f)
  revert HS
  generalize (W.alloc (.cells (madeCells #[.int .u32 0] n) 23)) = W0
  generalize W.heap.size = g
  intro HS
  clear hmk
  go_loopw [4] (fun v4 wr => ∃ k : Nat, k ≤ n ∧ v4 = .int .i64 (k : Int) ∧ Hid (CL W wr g n k f)) (fun v4 _ => n - (intOf v4).toNat)
  case atStart => exact ⟨0, by omega, rfl, HS⟩
  case round =>
    clear HS
    obtain ⟨k, hkn, rfl, hC⟩ := hrel
    by_cases hk : k < n
    · obtain ⟨b, off, ha, hb, hc, _, _⟩ := HR.out k hk
      injection ha with ha
      subst ha
      have hidx := idx22 (a := some ⟨b, off, none⟩) rfl n c k hk
      have hidg := idx22i g n n k hk
      obtain ⟨v, hv⟩ := hC.out.room k hk
      have hfz := hC.out.fz k
      have c0 : wr.cell? ⟨b, off + k, none⟩ = some (.int .u32 (f k)) := (hC.out.bel.cell (p := ⟨b, off + k, none⟩) hb).trans hc
      have HX := CL.hid (hC.out.step hk)
      clear hb hc
      go_wp2
      go_roundw
      case rel => exact ⟨k + 1, by omega, by go_num, HX⟩
      case measure => simp [intOf]; omega
    · obtain rfl : k = n := by omega
      go_wp2
      go_ret
      exact ⟨_, rfl, hC.out.bel, fun y hy => by injection hy with e; subst e; exact ⟨hC.out.lo, hC.out.glt⟩, fun i hi => ⟨g, rfl, hC.out.made i hi, hC.out.fz i⟩⟩

theorem clone8_none (f : Nat → Int) (W : World) :
    Calls Try.prog 8 #[.slice none 0 0] W fun e w' => ∃ a, e = .returned (.slice a 0 0) ∧ OW W w' a 0 f := by
  have hnil := eql_none
  go_enter Try.func8, Try.ntmps8
  go_wp2
  go_ret
  exact ⟨none, rfl, Below.refl _ _, fun x hx => (by cases hx), fun i hi => absurd hi (by omega)⟩

/-- 'cloneU32' -/
theorem clone8 (a0 : Option Addr) (n c : Nat) (f : Nat → Int) (W : World) (hn : n ≤ 65536) (hnil : a0 = none → n = 0 ∧ c = 0) (hr : RW W a0 n f) :
    Calls Try.prog 8 #[.slice a0 n c] W fun e w' => ∃ a, e = .returned (.slice a n n) ∧ OW W w' a n f := by
  rcases a0 with _ | x
  · obtain ⟨rfl, rfl⟩ := hnil rfl
    exact clone8_none f W
  · exact clone8_some x n c f W hn hr

/-- the walker's cells when it is new -/
abbrev wkc (a : Option Addr) (n : Nat) (mk : Int) : Array Value := #[.slice none 0 0, .slice none 0 0, .slice a n n, .int .u32 mk, .slice none 0 0, .slice none 0 0, .int .u64 0]

theorem new9 (a : Option Addr) (n : Nat) (mk : Int) (W : World) :
    Calls Try.prog 9 #[.slice a n n, .int .u32 mk] W fun e w' => e = .returned (.pointer (some ⟨W.heap.size, 0, none⟩)) ∧ w' = W.alloc (.cells (wkc a n mk) 51) := by
  go_enter Try.func9, Try.ntmps9
  go_wp2
  go_ret
  exact ⟨rfl, rfl⟩
end Go.Proofs.Qxb6613152a.Wk
