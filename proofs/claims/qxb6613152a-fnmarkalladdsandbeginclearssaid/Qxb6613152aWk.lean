import Derived.Test.Qxb6613152aRows
import Derived.Test.Qxb6613152aFrame
import Derived.Deep.QuietTactic
import Derived.BigQuiet
import Derived.WalkSmall
import Derived.Deep.RegionHeld3
import Derived.Lib.SliceRun
import Derived.BigFrame
namespace Go.Proofs.Qxb6613152a.Wk
open Go.RowKit Qfr

/-- a slice of u32 that came in, or that is only read -/
def RW (w : World) (a : Option Addr) (n : Nat) (f : Nat → Int) : Prop :=
  ∀ i, i < n → ∃ b off, a = some ⟨b, off, none⟩ ∧ b < w.heap.size ∧ w.cell? ⟨b, off + i, none⟩ = some (.int .u32 (f i)) ∧ 0 ≤ f i ∧ f i < 4294967296

theorem RW.keep {w w' : World} {a : Option Addr} {n : Nat} {f : Nat → Int} (h : RW w a n f) (hb : Below w.heap.size w w') : RW w' a n f := fun i hi => by
  obtain ⟨b, off, ha, hlt, hc, h0, h1⟩ := h i hi
  exact ⟨b, off, ha, Nat.lt_of_lt_of_le hlt hb.size, (hb.cell (p := ⟨b, off + i, none⟩) hlt).trans hc, h0, h1⟩

/-- the walker at B: its marks are the row at a, its mark is mk -/
structure WK (w W : World) (B : Nat) (a : Option Addr) (n : Nat) (mk vs : Int) (f : Nat → Int) : Prop where
  bel : Below w.heap.size w W
  lt : w.heap.size ≤ W.heap.size
  lo : w.heap.size ≤ B
  blt : B < W.heap.size
  ls : W.cell? ⟨B, 1, none⟩ = some (.slice none 0 0)
  ms : W.cell? ⟨B, 2, none⟩ = some (.slice a n n)
  mc : W.cell? ⟨B, 3, none⟩ = some (.int .u32 mk)
  vc : W.cell? ⟨B, 6, none⟩ = some (.int .u64 vs)
  fz : ∀ x, W.frozen? ⟨B, x, none⟩ = false
  row : ∀ i, i < n → ∃ g, a = some ⟨g, 0, none⟩ ∧ w.heap.size ≤ g ∧ g ≠ B ∧ W.cell? ⟨g, i, none⟩ = some (.int .u32 (f i)) ∧ W.frozen? ⟨g, i, none⟩ = false

theorem idx22 {a : Option Addr} {b off : Nat} (ha : a = some ⟨b, off, none⟩) (len cap k : Nat) (hk : k < len) (w : World) :
    (Instr.indexAt 22 (.slice a len cap) (.int .i64 (k : Int))).run Try.prog w = .ok (.pointer (some ⟨b, off + k, none⟩)) w := by
  subst ha
  rw [run_indexAt_slice w 22 _ len cap .i64 k (by kernel_rfl), if_pos (by omega)]
  have hz : (sizeOf (Try.prog.elem 22)).run Try.prog w = .ok 1 w := by kernel_rfl
  rw [hz]
  simp [Addr.add]
theorem idx22u {a : Option Addr} {b off : Nat} (ha : a = some ⟨b, off, none⟩) (len cap k : Nat) (hk : k < len) (w : World) :
    (Instr.indexAt 22 (.slice a len cap) (.int .u32 (k : Int))).run Try.prog w = .ok (.pointer (some ⟨b, off + k, none⟩)) w := by
  subst ha
  rw [run_indexAt_slice w 22 _ len cap .u32 k (by kernel_rfl), if_pos (by omega)]
  have hz : (sizeOf (Try.prog.elem 22)).run Try.prog w = .ok 1 w := by kernel_rfl
  rw [hz]
  simp [Addr.add]

theorem idx22z {a : Option Addr} {b : Nat} (ha : a = some ⟨b, 0, none⟩) (len cap k : Nat) (hk : k < len) (w : World) :
    (Instr.indexAt 22 (.slice a len cap) (.int .u32 (k : Int))).run Try.prog w = .ok (.pointer (some ⟨b, k, none⟩)) w := by
  have := idx22u ha len cap k hk w
  rwa [Nat.zero_add] at this

/-- 'marked' -/
theorem marked26 {w W : World} {B n q : Nat} {a : Option Addr} {mk vs : Int} {f : Nat → Int} (h : WK w W B a n mk vs f) (hq : q < n) :
    Calls Try.prog 26 #[.pointer (some ⟨B, 0, none⟩), .int .u32 (q : Int)] W fun e w' => e = .returned (.bool (f q == mk)) ∧ ∃ m, w' = W.drewN m := by
  obtain ⟨g, ha, _, _, hc, _⟩ := h.row q hq
  have hidx := idx22z ha n n q hq
  have h2 := h.ms
  have h3 := h.mc
  clear h ha
  go_enter Try.func26, Try.ntmps26
  go_wp2
  go_quiet (fail)
  go_wp2
  go_ret
  exact ⟨rfl, _, rfl⟩
theorem marked11 {w W : World} {B n q : Nat} {a : Option Addr} {mk vs : Int} {f : Nat → Int} (h : WK w W B a n mk vs f) (hq : q < n) :
    Calls Try.prog 11 #[.pointer (some ⟨B, 0, none⟩), .int .u32 (q : Int)] W fun e w' => e = .returned (.bool (f q == mk)) ∧ ∃ m, w' = W.drewN m := by
  have H : Hid (WK w W B a n mk vs f) := h
  clear h
  go_enter Try.func11, Try.ntmps11
  go_wp2_with (go_at_call 26; refine (marked26 H.out hq).mono ?_; rintro e w' ⟨rfl, m, rfl⟩)
  go_ret
  exact ⟨rfl, _, rfl⟩

/-- which blocks 'begin' and 'markAll' may write -/
def Own (B : Nat) (a : Option Addr) (k : Nat) : Prop := k = B ∨ ∃ x, a = some x ∧ x.block = k

theorem WK.hid {w W : World} {B n : Nat} {a : Option Addr} {mk vs : Int} {f : Nat → Int} (h : WK w W B a n mk vs f) : Hid (WK w W B a n mk vs f) := h

theorem set_oth (W : World) (b x y : Nat) (v : Value) (h : x ≠ y) : (W.setCell ⟨b, x, none⟩ v).cell? ⟨b, y, none⟩ = W.cell? ⟨b, y, none⟩ :=
  World.cell?_setCell_other W _ _ v (by intro e; injection e with _ e; exact h e)

/-- a write to one of the walker's own cells -/
theorem WK.set {w W : World} {B n : Nat} {a : Option Addr} {mk vs : Int} {f : Nat → Int} (h : WK w W B a n mk vs f) (x : Nat) (v : Value) (mk' vs' : Int)
    (h1 : x = 1 → v = .slice none 0 0) (h2 : x ≠ 2) (h3 : if x = 3 then v = .int .u32 mk' else mk' = mk) (h6 : if x = 6 then v = .int .u64 vs' else vs' = vs) : WK w (W.setCell ⟨B, x, none⟩ v) B a n mk' vs' f := by
  have same : ∀ {u : Value}, W.cell? ⟨B, x, none⟩ = some u → (W.setCell ⟨B, x, none⟩ v).cell? ⟨B, x, none⟩ = some v := fun hu => World.cell?_setCell_same _ _ _ hu
  refine ⟨h.bel.setCell h.lo _, by simpa using h.lt, h.lo, by simpa using h.blt, ?_, ?_, ?_, ?_, fun y => by simp [h.fz y], fun i hi => ?_⟩
  · by_cases e : x = 1
    · subst e
      rw [same h.ls, h1 rfl]
    · rw [set_oth _ _ _ _ _ e]; exact h.ls
  · rw [set_oth _ _ _ _ _ h2]; exact h.ms
  · by_cases e : x = 3
    · subst e
      rw [if_pos rfl] at h3
      rw [same h.mc, h3]
    · rw [if_neg e] at h3
      rw [set_oth _ _ _ _ _ e, h3]; exact h.mc
  · by_cases e : x = 6
    · subst e
      rw [if_pos rfl] at h6
      rw [same h.vc, h6]
    · rw [if_neg e] at h6
      rw [set_oth _ _ _ _ _ e, h6]; exact h.vc
  · obtain ⟨g, ha, hg, hne, hc, hf⟩ := h.row i hi
    refine ⟨g, ha, hg, hne, ?_, by simp [hf]⟩
    rw [World.cell?_setCell_far _ _ _ _ (fun e => hne e.symm)]
    exact hc

/-- a mark laid -/
theorem WK.lay {w W : World} {B n q : Nat} {a : Option Addr} {mk vs : Int} {f : Nat → Int} (h : WK w W B a n mk vs f) (hq : q < n) {g : Nat} (ha : a = some ⟨g, 0, none⟩) (t : Int) :
    WK w (W.setCell ⟨g, q, none⟩ (.int .u32 t)) B a n mk vs (fun i => if i = q then t else f i) := by
  obtain ⟨g', ha', hg, hne, hc, hf⟩ := h.row q hq
  obtain rfl : g = g' := by
    rw [ha] at ha'
    injection ha' with e
    injection e with e
  have far : ∀ y, (W.setCell ⟨g, q, none⟩ (.int .u32 t)).cell? ⟨B, y, none⟩ = W.cell? ⟨B, y, none⟩ := fun y => World.cell?_setCell_far _ _ _ _ hne
  refine ⟨h.bel.setCell hg _, by simpa using h.lt, h.lo, by simpa using h.blt, (far _).trans h.ls, (far _).trans h.ms, (far _).trans h.mc, (far _).trans h.vc, fun y => by simp [h.fz y], fun i hi => ?_⟩
  obtain ⟨g'', ha'', hg'', hne'', hc'', hf''⟩ := h.row i hi
  obtain rfl : g = g'' := by
    rw [ha] at ha''
    injection ha'' with e
    injection e with e
  refine ⟨g, ha, hg, hne, ?_, by simp [hf'']⟩
  by_cases e : i = q
  · subst e
    rw [if_pos rfl]
    exact World.cell?_setCell_same _ _ _ hc
  · rw [if_neg e, set_oth _ _ _ _ _ (fun e' => e e'.symm)]
    exact hc''

theorem WK.drew {w W : World} {B n : Nat} {a : Option Addr} {mk vs : Int} {f : Nat → Int} (h : WK w W B a n mk vs f) : WK w W.drew B a n mk vs f := ⟨h.bel.drew, h.lt, h.lo, h.blt, h.ls, h.ms, h.mc, h.vc, h.fz, h.row⟩
theorem WK.drewN {w W : World} {B n : Nat} {a : Option Addr} {mk vs : Int} {f : Nat → Int} (h : WK w W B a n mk vs f) (m : Nat) : WK w (W.drewN m) B a n mk vs f := ⟨⟨h.bel.os, h.bel.tape, h.bel.output, h.bel.size, h.bel.block⟩, h.lt, h.lo, h.blt, h.ls, h.ms, h.mc, h.vc, h.fz, h.row⟩

set_option maxHeartbeats 1000000 in
/-- 'begin' where the mark does not wrap -/
theorem begin_plain {w W : World} {B n : Nat} {a : Option Addr} {mk vs : Int} {f : Nat → Int} (h : WK w W B a n mk vs f) (h0 : 0 ≤ mk) (h1 : mk < 4294967295) :
    Calls Try.prog 28 #[.pointer (some ⟨B, 0, none⟩)] W fun e w' => e = .returned (.tuple #[]) ∧ WK w w' B a n (mk + 1) vs f ∧ Fr (Own B a) W w' := by
  have H := WK.hid h
  have c1 := h.ls
  have c3 := h.mc
  have f1 := h.fz 1
  have f3 := h.fz 3
  have hwr : IntKind.u32.wrap (mk + 1) = mk + 1 := by rw [IntKind.wrap_u32]; omega
  have hne : (mk + 1 == 0) = false := by simp; omega
  clear h
  go_enter Try.func28, Try.ntmps28
  go_wp2
  go_end0
  exact ⟨rfl, (H.out.set 1 (.slice none 0 0) mk vs (fun _ => rfl) (by omega) (by simp) (by simp)).set 3 (.int .u32 (mk + 1)) (mk + 1) vs (by omega) (by omega) (by simp) (by simp), ((Fr.refl _ W).setCell (.inl (.inl rfl)) _).setCell (.inl (.inl rfl)) _⟩

theorem fr_setCells {S : Nat → Prop} {a : World} {g : Nat} (hS : S g) : ∀ (vs : List Value) (o : Nat) (w : World), Fr S a w → Fr S a (w.setCells g o vs)
  | [], _, _, h => h
  | v :: vs, o, w, h => fr_setCells hS vs (o + 1) (w.setCell ⟨g, o, none⟩ v) (h.setCell (.inl hS) v)

theorem zero23 (w : World) : (zeroValue 23).run Try.prog w = .ok (.int .u32 0) w := by kernel_rfl

theorem clear_run {w X : World} {B n : Nat} {a : Option Addr} {mk vs : Int} {f : Nat → Int} (h : WK w X B a n mk vs f) (hn : n ≤ 65536) :
    ∃ Y, (∀ ty, (Builtin.clear_ #[22] ty #[.slice a n n]).run Try.prog X = .ok (.tuple #[]) Y) ∧ WK w Y B a n mk vs (fun _ => 0) ∧ Fr (Own B a) X Y := by
  by_cases h0 : n = 0
  · subst h0
    refine ⟨X, fun ty => by cases a <;> simp [Builtin.clear_, run_underlying Try.underlying22], ⟨h.bel, h.lt, h.lo, h.blt, h.ls, h.ms, h.mc, h.vc, h.fz, fun i hi => absurd hi (by omega)⟩, Fr.refl _ _⟩
  · obtain ⟨g, ha, hg, hne, hc, hf⟩ := h.row 0 (by omega)
    have hrow : ∀ i, i < n → X.cell? ⟨g, i, none⟩ = some (.int .u32 (f i)) ∧ X.frozen? ⟨g, i, none⟩ = false := fun i hi => by
      obtain ⟨g', ha', _, _, hc', hf'⟩ := h.row i hi
      obtain rfl : g = g' := by
        rw [ha] at ha'
        injection ha' with e
        injection e with e
      exact ⟨hc', hf'⟩
    have hsz : g < X.heap.size := World.block_lt_of_cell? _ _ hc
    refine ⟨X.setCells g 0 (List.replicate n (.int .u32 0)), fun ty => ?_, ?_, ?_⟩
    · rw [ha]
      exact Lib.run_clear_slice X 22 23 ty (.int .u32 0) Try.underlying22 zero23 rfl rfl g 0 n n (by omega) (fun j hj => by rw [Nat.zero_add, (hrow j hj).1]; rfl) (fun j hj => by rw [Nat.zero_add]; exact (hrow j hj).2)
    · have far : ∀ y, (X.setCells g 0 (List.replicate n (.int .u32 0))).cell? ⟨B, y, none⟩ = X.cell? ⟨B, y, none⟩ := fun y => World.cell?_setCells_out g _ 0 X _ (fun e => absurd e.symm hne)
      have hfr : Fr (Own B a) X (X.setCells g 0 (List.replicate n (.int .u32 0))) := fr_setCells (.inr ⟨_, ha, rfl⟩) _ _ _ (Fr.refl _ _)
      have hsize := hfr.size
      have hlt := h.lt
      have hblt := h.blt
      refine ⟨hfr.below h.bel (fun k hk => ?_), by omega, h.lo, by omega, (far _).trans h.ls, (far _).trans h.ms, (far _).trans h.mc, (far _).trans h.vc, fun x => by rw [World.frozen?_setCells]; exact h.fz x, fun i hi => ⟨g, ha, hg, hne, ?_, by rw [World.frozen?_setCells]; exact (hrow i hi).2⟩⟩
      · rcases hk with rfl | ⟨x, hx, rfl⟩
        · exact h.lo
        · rw [ha] at hx
          injection hx with e
          rw [← e]
          exact hg
      · have := World.cell?_setCells_in g (List.replicate n (.int .u32 0)) 0 X (fun j hj => by rw [Nat.zero_add, (hrow j (by simpa using hj)).1]; rfl) i (by simpa using hi)
        rw [Nat.zero_add] at this
        rw [this]
        simp
    · exact fr_setCells (.inr ⟨_, ha, rfl⟩) _ _ _ (Fr.refl _ _)

set_option maxHeartbeats 1000000 in
/-- 'begin' where the mark wraps -/
theorem begin_wrap {w W : World} {B n : Nat} {a : Option Addr} {vs : Int} {f : Nat → Int} (h : WK w W B a n 4294967295 vs f) (hn : n ≤ 65536) :
    Calls Try.prog 28 #[.pointer (some ⟨B, 0, none⟩)] W fun e w' => e = .returned (.tuple #[]) ∧ WK w w' B a n 1 vs (fun _ => 0) ∧ Fr (Own B a) W w' := by
  have h2 := (h.set 1 (.slice none 0 0) 4294967295 vs (fun _ => rfl) (by omega) (by simp) (by simp)).set 3 (.int .u32 0) 0 vs (by omega) (by omega) (by simp) (by simp)
  obtain ⟨Y, hcl, hY, hfr⟩ := clear_run h2 hn
  have HY := WK.hid hY
  have HF : Hid (Fr (Own B a) W Y) := (((Fr.refl _ W).setCell (.inl (.inl rfl)) _).setCell (.inl (.inl rfl)) _).trans hfr (fun _ _ h => h)
  have c1 := h.ls
  have c2 := h.ms
  have c3 := h.mc
  have f1 := h.fz 1
  have f3 := h.fz 3
  have d3 := hY.mc
  have g3 := hY.fz 3
  clear h h2 hY hfr
  go_enter Try.func28, Try.ntmps28
  go_wp2_with (simp only [hcl])
  go_end0
  exact ⟨rfl, HY.out.set 3 (.int .u32 1) 1 vs (by omega) (by omega) (by simp) (by simp), HF.out.setCell (.inl (.inl rfl)) _⟩

theorem begin_any {w W : World} {B n : Nat} {a : Option Addr} {mk vs : Int} {f : Nat → Int} (h : WK w W B a n mk vs f) (h0 : 0 ≤ mk) (h1 : mk < 4294967296) (hn : n ≤ 65536) (hf : ∀ i, i < n → f i ≤ mk) :
    Calls Try.prog 28 #[.pointer (some ⟨B, 0, none⟩)] W fun e w' => e = .returned (.tuple #[]) ∧ Fr (Own B a) W w' ∧ ∃ mk' f', WK w w' B a n mk' vs f' ∧ 0 ≤ mk' ∧ mk' < 4294967296 ∧ ∀ i, i < n → f' i < mk' := by
  by_cases hm : mk = 4294967295
  · subst hm
    refine (begin_wrap h hn).mono ?_
    rintro e w' ⟨he, hw, hfr⟩
    exact ⟨he, hfr, 1, _, hw, by omega, by omega, fun _ _ => by omega⟩
  · refine (begin_plain h h0 (by omega)).mono ?_
    rintro e w' ⟨he, hw, hfr⟩
    exact ⟨he, hfr, mk + 1, _, hw, by omega, by omega, fun i hi => by have := hf i hi; omega⟩
end Go.Proofs.Qxb6613152a.Wk
