import Derived.Test.Qxb6613152aMk
import Derived.Laws.CopyOwn
import Derived.Lib.LazyBuf
import Derived.Deep.CutRange
import Derived.Deep.CutBlock
namespace Go.Proofs.Qxb6613152a.Wk
open Go.RowKit Qfr

/-- the cells of a row of u32 -/
def u32s (l : Nat) (p : Nat → Int) : List Value := (List.range l).map fun i => .int .u32 (p i)
theorem u32s_len (l : Nat) (p : Nat → Int) : (u32s l p).length = l := by simp [u32s]
theorem u32s_one (l : Nat) (p : Nat → Int) : ∀ v ∈ u32s l p, v.oneCell' = true := by
  intro v hv
  simp [u32s] at hv
  obtain ⟨i, _, rfl⟩ := hv
  rfl
theorem u32s_at {l : Nat} {p : Nat → Int} {i : Nat} (h : i < l) : (u32s l p)[i]? = some (.int .u32 (p i)) := by simp [u32s, h]
theorem u32s_lt {l : Nat} {p : Nat → Int} {i : Nat} {v : Value} (h : (u32s l p)[i]? = some v) : i < l ∧ v = .int .u32 (p i) := by
  have hl := (List.getElem?_eq_some_iff.1 h).1
  rw [u32s_len] at hl
  rw [u32s_at hl] at h
  injection h with h
  exact ⟨hl, h.symm⟩

theorem neq_any (a : Option Addr) (l c : Nat) (w : World) : (binOp .neq 22 (.slice a l c) (.slice none 0 0)).run Try.prog w = .ok (.bool (!a.isNone)) w := by
  cases a <;> kernel_rfl
theorem copy_fits (l : Nat) (p : Nat → Int) : 0 + (u32s l p).length ≤ (madeCells #[Value.int .u32 0] l).toList.length := by
  have h1 := u32s_len l p
  have h3 : (madeCells #[Value.int .u32 0] l).toList.length = l := (Array.length_toList (xs := madeCells #[Value.int .u32 0] l)).trans (size_madeCells _ _)
  omega
theorem hsz23 : (Try.prog.info? 23).map (·.size) = some 1 := by kernel_rfl

theorem copied {w W : World} {x : Addr} {l : Nat} {p : Nat → Int} (hr : RW w (some x) l p) (hg : W.heap[w.heap.size]? = some (.cells (splice (madeCells #[.int .u32 0] l).toList 0 (u32s l p)).toArray 23 (0, 0))) : RW W (some ⟨w.heap.size, 0, none⟩) l p := fun i hi => by
  obtain ⟨_, _, _, _, _, h0, h1⟩ := hr i hi
  refine ⟨w.heap.size, 0, rfl, lt_of_block hg, ?_, h0, h1⟩
  rw [cell_of_row _ _ _ _ _ _ hg]
  simp only [splice, List.take_zero, List.nil_append, Nat.zero_add, List.getElem?_toArray]
  rw [List.getElem?_append_left (by rw [u32s_len]; exact hi)]
  exact u32s_at hi

theorem src_cells {w : World} {x : Addr} {l : Nat} {p : Nat → Int} (hr : RW w (some x) l p) (o : Obj) : ∀ j v, (u32s l p)[j]? = some v → (w.alloc o).cell? (x.add j) = some v := fun j v hj => by
  obtain ⟨hl, rfl⟩ := u32s_lt hj
  obtain ⟨b, off, hx, _, hc, _, _⟩ := hr j hl
  injection hx with hx
  subst hx
  have : (⟨b, off, none⟩ : Addr).add j = ⟨b, off + j, none⟩ := by unfold Addr.add; split <;> simp_all
  rw [this]
  exact cell1 hc o

theorem made_heap (w : World) (l : Nat) : (w.alloc (.cells (madeCells #[.int .u32 0] l) 23)).heap[w.heap.size]? = some (.cells (madeCells #[.int .u32 0] l).toList.toArray 23 (0, 0)) := by
  simpa using heap_alloc_new w (.cells (madeCells #[.int .u32 0] l) 23)

theorem copy_run {w : World} {x : Addr} {l : Nat} {p : Nat → Int} (c2 : Nat) (hr : RW w (some x) l p) :
    ∃ w3, (Builtin.copy_ #[22, 22] 3 #[.slice (some ⟨w.heap.size, 0, none⟩) l l, .slice (some x) l c2]).run Try.prog (w.alloc (.cells (madeCells #[.int .u32 0] l) 23)) = .ok (.int .i64 (l : Int)) w3 ∧ RW w3 (some ⟨w.heap.size, 0, none⟩) l p ∧ Below w.heap.size w w3 := by
  have hc1 : (u32s l p).length = Nat.min l l := by
    rw [u32s_len]
    exact (Nat.min_self l).symm
  have hrun := run_copy_row (P := Try.prog) (w.alloc (.cells (madeCells #[.int .u32 0] l) 23)) 22 22 3 23 w.heap.size 0 l l x l c2 (madeCells #[.int .u32 0] l).toList.toArray 23 (u32s l p) Try.underlying22 hsz23 (made_heap w l) hc1 (src_cells hr _) (by simpa using copy_fits l p) (u32s_one l p)
  have hh := setRow_heap _ _ _ (splice (madeCells #[.int .u32 0] l).toList 0 (u32s l p)).toArray _ _ (made_heap w l)
  refine ⟨_, hrun.trans ?_, copied hr hh, below_setRow ((Below.refl _ w).alloc (Nat.le_refl _) _) (Nat.le_refl _) _⟩
  simp [splice, u32s_len, goInt]

theorem made_at (n q : Nat) (hq : q < n) : (madeCells #[Value.bool false] n)[q]? = some (.bool false) := by
  simp [madeCells, hq, Nat.mod_one]

/-- what the loop that fills 'want' keeps -/
structure WT (W2 wr : World) (G n k : Nat) (p : Nat → Int) : Prop where
  fr : Fr (fun j => j = G) W2 wr
  glt : G < wr.heap.size
  cells : ∀ q : Nat, q < n → wr.cell? ⟨G, q, none⟩ = some (.bool (decide (∃ j, j < k ∧ p j = (q : Int))))
  fz : ∀ x, wr.frozen? ⟨G, x, none⟩ = false
theorem WT.hid {W2 wr : World} {G n k : Nat} {p : Nat → Int} (h : WT W2 wr G n k p) : Hid (WT W2 wr G n k p) := h
theorem WT.start (W : World) (n : Nat) (p : Nat → Int) : WT (W.alloc (.cells (madeCells #[.bool false] n) 4)) (W.alloc (.cells (madeCells #[.bool false] n) 4)) W.heap.size n 0 p := by
  have hE := heap_alloc_new W (.cells (madeCells #[.bool false] n) 4)
  refine ⟨Fr.refl _ _, by simp, fun q hq => ?_, fun x => ?_⟩
  · rw [cell_of_row _ _ _ _ _ _ hE]
    have hf : ¬ ∃ j, j < 0 ∧ p j = (q : Int) := fun ⟨j, hj, _⟩ => absurd hj (by omega)
    rw [decide_eq_false hf]
    exact made_at n q hq
  · unfold World.frozen?
    simp only [hE]
    simp
theorem WT.step {W2 wr : World} {G n k q : Nat} {p : Nat → Int} (h : WT W2 wr G n k p) (hq : q < n) (hp : p k = (q : Int)) : WT W2 (wr.setCell ⟨G, q, none⟩ (.bool true)) G n (k + 1) p := by
  refine ⟨h.fr.setCell (.inl rfl) _, by simpa using h.glt, fun r hr => ?_, fun x => by simp [h.fz x]⟩
  by_cases e : r = q
  · subst e
    rw [decide_eq_true ⟨k, by omega, hp⟩]
    exact World.cell?_setCell_same _ _ _ (h.cells r hr)
  · rw [set_oth _ _ _ _ _ (fun e' => e e'.symm), h.cells r hr]
    have : (∃ j, j < k ∧ p j = (r : Int)) ↔ ∃ j, j < k + 1 ∧ p j = (r : Int) := by
      constructor
      · rintro ⟨j, hj, hpj⟩
        exact ⟨j, by omega, hpj⟩
      · rintro ⟨j, hj, hpj⟩
        by_cases ej : j = k
        · subst ej
          exact absurd (hpj.symm.trans hp) (by omega)
        · exact ⟨j, by omega, hpj⟩
    rw [decide_eq_decide.2 this]

theorem idx26 (G len cap k : Nat) (hk : k < len) (w : World) :
    (Instr.indexAt 26 (.slice (some ⟨G, 0, none⟩) len cap) (.int .u32 (k : Int))).run Try.prog w = .ok (.pointer (some ⟨G, k, none⟩)) w := by
  rw [run_indexAt_slice w 26 _ len cap .u32 k (by kernel_rfl), if_pos (by omega)]
  have hz : (sizeOf (Try.prog.elem 26)).run Try.prog w = .ok 1 w := by kernel_rfl
  rw [hz]
  have e : (⟨G, 0, none⟩ : Addr).add k = ⟨G, k, none⟩ := by unfold Addr.add; split <;> simp_all
  simp [e]
theorem idx26i (G len cap k : Nat) (hk : k < len) (w : World) :
    (Instr.indexAt 26 (.slice (some ⟨G, 0, none⟩) len cap) (.int .i64 (k : Int))).run Try.prog w = .ok (.pointer (some ⟨G, k, none⟩)) w := by
  rw [run_indexAt_slice w 26 _ len cap .i64 k (by kernel_rfl), if_pos (by omega)]
  have hz : (sizeOf (Try.prog.elem 26)).run Try.prog w = .ok 1 w := by kernel_rfl
  rw [hz]
  have e : (⟨G, 0, none⟩ : Addr).add k = ⟨G, k, none⟩ := by unfold Addr.add; split <;> simp_all
  simp [e]

/-- the new walker -/
theorem WK.start {w wc w1 wr : World} {a : Option Addr} {n l : Nat} {m : Int} {f p : Nat → Int} (hc : Below w.heap.size w wc) (ho : OW wc w1 a n f) (ht : WT (w1.alloc (.cells (madeCells #[.bool false] n) 4)) wr w1.heap.size n l p) :
    WK w (wr.alloc (.cells (wkc a n m) 51)) wr.heap.size a n m 0 f := by
  have s0 := hc.size
  have s1 := ho.bel.size
  have s2 := ht.fr.size
  rw [World.size_alloc] at s2
  have hg := heap_alloc_new wr (.cells (wkc a n m) 51)
  have b1 : Below w.heap.size w (w1.alloc (.cells (madeCells #[.bool false] n) 4)) := (hc.trans (ho.bel.mono s0)).alloc (by omega) _
  have b2 : Below w.heap.size w wr := ht.fr.below b1 (fun k hk => by omega)
  refine ⟨b2.alloc (by omega) _, by simp; omega, by omega, by simp, ?_, ?_, ?_, ?_, fun x => ?_, fun i hi => ?_⟩
  · rw [cell_of_row _ _ _ _ _ _ hg]; rfl
  · rw [cell_of_row _ _ _ _ _ _ hg]; rfl
  · rw [cell_of_row _ _ _ _ _ _ hg]; rfl
  · rw [cell_of_row _ _ _ _ _ _ hg]; rfl
  · unfold World.frozen?
    simp only [hg]
    simp
  · obtain ⟨g, ha, hcg, hfg⟩ := ho.row i hi
    obtain ⟨n0, n1⟩ := ho.new _ ha
    have n1' : g < w1.heap.size := n1
    have n0' : wc.heap.size ≤ g := n0
    have c1 := cell1 hcg (.cells (madeCells #[.bool false] n) 4)
    have c2 := ht.fr.cell c1 (Nat.ne_of_lt n1')
    refine ⟨g, ha, by omega, by omega, cell1 c2 _, ?_⟩
    have f1 : (w1.alloc (.cells (madeCells #[.bool false] n) 4)).frozen? ⟨g, i, none⟩ = w1.frozen? ⟨g, i, none⟩ := ((Below.refl _ w1).alloc (Nat.le_refl _) (.cells (madeCells #[.bool false] n) 4)).frozen (p := ⟨g, i, none⟩) n1'
    have f2 : wr.frozen? ⟨g, i, none⟩ = _ := ht.fr.free (p := ⟨g, i, none⟩) (by rw [World.size_alloc]; show g < _; omega) (Nat.ne_of_lt n1')
    have f3 : (wr.alloc (.cells (wkc a n m) 51)).frozen? ⟨g, i, none⟩ = wr.frozen? ⟨g, i, none⟩ := ((Below.refl _ wr).alloc (Nat.le_refl _) (.cells (wkc a n m) 51)).frozen (p := ⟨g, i, none⟩) (by show g < _; omega)
    rw [f3, f2, f1, hfg]

theorem mk_sep {wc w1 wr : World} {a b2 : Option Addr} {n l m' : Nat} {m : Int} {f p : Nat → Int} (ho : OW wc w1 a n f) (hr : RW (w1.alloc (.cells (madeCells #[.bool false] n) 4)) b2 l p ∧ ∀ x, b2 = some x → 0 < l → x.block < wc.heap.size) (ht : WT (w1.alloc (.cells (madeCells #[.bool false] n) 4)) wr w1.heap.size n m' p) :
    RW (wr.alloc (.cells (wkc a n m) 51)) b2 l p ∧ ∀ x, b2 = some x → 0 < l → ¬ Own wr.heap.size a x.block := by
  have s1 := ho.bel.size
  have s2 := ht.fr.size
  rw [World.size_alloc] at s2
  refine ⟨(hr.1.frame ht.fr (fun x hx h0 => ?_)).keep ((Below.refl _ _).alloc (Nat.le_refl _) _), fun x hx h0 => ?_⟩
  · have := hr.2 x hx h0
    omega
  · have := hr.2 x hx h0
    rintro (h | ⟨y, hy, h⟩)
    · omega
    · have := (ho.new y hy).1
      omega

/-- what the last loop reads -/
structure FI (w wr : World) (B : Nat) (a : Option Addr) (n l G : Nat) (p : Nat → Int) (mk vs : Int) (h : Nat → Int) : Prop where
  wk : WK w wr B a n mk vs h
  eq : ∀ q : Nat, q < n → (h q == mk) = decide (∃ j, j < l ∧ p j = (q : Int))
  cells : ∀ q : Nat, q < n → wr.cell? ⟨G, q, none⟩ = some (.bool (decide (∃ j, j < l ∧ p j = (q : Int))))
theorem FI.drewN {w wr : World} {B : Nat} {a : Option Addr} {n l G : Nat} {p : Nat → Int} {mk vs : Int} {h : Nat → Int} (x : FI w wr B a n l G p mk vs h) (m : Nat) : FI w (wr.drewN m) B a n l G p mk vs h := ⟨x.wk.drewN m, x.eq, x.cells⟩
theorem FI.hid {w wr : World} {B : Nat} {a : Option Addr} {n l G : Nat} {p : Nat → Int} {mk vs : Int} {h : Nat → Int} (x : FI w wr B a n l G p mk vs h) : Hid (FI w wr B a n l G p mk vs h) := x
theorem FI.start {w wc w1 wr w4 : World} {a b2 : Option Addr} {n l : Nat} {m mk vs : Int} {f f' p : Nat → Int} (ho : OW wc w1 a n f) (hr : RW (w1.alloc (.cells (madeCells #[.bool false] n) 4)) b2 l p ∧ ∀ x, b2 = some x → 0 < l → x.block < wc.heap.size) (ht : WT (w1.alloc (.cells (madeCells #[.bool false] n) 4)) wr w1.heap.size n l p)
    (hfr : Fr (Own wr.heap.size a) (wr.alloc (.cells (wkc a n m) 51)) w4) (hwk : WK w w4 wr.heap.size a n mk vs (lay p mk f' l)) (hf : ∀ i, i < n → f' i < mk) : FI w w4 wr.heap.size a n l w1.heap.size p mk vs (lay p mk f' l) := by
  have s2 := ht.fr.size
  rw [World.size_alloc] at s2
  refine ⟨hwk, fun q hq => lay_spec p mk f' q (hf q hq) l (fun j hj => ?_), fun q hq => ?_⟩
  · obtain ⟨_, _, _, _, _, h0, _⟩ := hr.1 j hj
    exact h0
  · refine hfr.cell (cell1 (ht.cells q hq) _) ?_
    rintro (h | ⟨y, hy, h⟩)
    · have h' : w1.heap.size = wr.heap.size := h
      omega
    · have := (ho.new y hy).2
      have h' : y.block = w1.heap.size := h
      omega
theorem drewN2 (w : World) (a b : Nat) : (w.drewN a).drewN b = w.drewN (a + b) := by simp [World.drewN, Nat.add_assoc]
theorem FI.marked {w wr : World} {B : Nat} {a : Option Addr} {n l G : Nat} {p : Nat → Int} {mk vs : Int} {h : Nat → Int} (x : FI w wr B a n l G p mk vs h) {q : Nat} (hq : q < n) {bq : Bool} (hb : decide (∃ j, j < l ∧ p j = (q : Int)) = bq) (m : Nat) :
    Calls Try.prog 11 #[.pointer (some ⟨B, 0, none⟩), .int .u32 (q : Int)] (wr.drewN m) fun e w' => e = .returned (.bool bq) ∧ ∃ m', w' = wr.drewN m' := by
  refine (marked11 (x.wk.drewN m) hq).mono ?_
  rintro e w' ⟨he, m', hw⟩
  rw [x.eq q hq, hb] at he
  exact ⟨he, m + m', by rw [hw, drewN2]⟩

set_option maxRecDepth 10000 in
set_option maxHeartbeats 4000000 in
theorem on_in (a0 a2 : Option Addr) (n c0 l c2 : Nat) (m : Int) (f p : Nat → Int) (w : World) (hn : n ≤ 65536) (hl : l ≤ 65536) (hm0 : 0 ≤ m) (hm1 : m < 4294967296)
    (h0 : a0 = none → n = 0 ∧ c0 = 0) (h2 : a2 = none → l = 0 ∧ c2 = 0) (hr0 : RW w a0 n f) (hr2 : RW w a2 l p) :
    Calls Try.prog 3 #[.slice a0 n c0, .int .u32 m, .slice a2 l c2] w fun e w' => e = .returned (.bool true) ∧ Below w.heap.size w w' := by
  have HN : Hid (a0 = none → n = 0 ∧ c0 = 0) := h0
  have HM : Hid (0 ≤ m ∧ m < 4294967296) := ⟨hm0, hm1⟩
  have HR0 : Hid (RW w a0 n f) := hr0
  have HR2 : Hid (RW w a2 l p) := hr2
  have H2 : Hid (a2 = none → l = 0 ∧ c2 = 0) := h2
  have hd0 : decide ((65536 : Int) < (n : Int)) = false := decide_eq_false (by omega)
  have hd1 : decide ((65536 : Int) < (l : Int)) = false := decide_eq_false (by omega)
  have hnq : ∀ w, (binOp .neq 22 (.slice a2 l c2) (.slice none 0 0)).run Try.prog w = .ok (.bool (!a2.isNone)) w := fun w => neq_any a2 l c2 w
  clear h0 h2 hr0 hr2 hm0 hm1
  go_enter Try.func3, Try.ntmps3
  go_upto_if 29 with (go_at_call 7; refine (bytes7_ok a0 a2 n c0 l c2 m (by omega) (by omega) (by omega) w).mono ?_; rintro e w' ⟨rfl, rfl⟩)
  go_cut [2, 7] from 15 (fun v2 v7 wx => ∃ (b2 : Option Addr) (d2 : Nat), v2 = .slice b2 l d2 ∧ Hid (RW wx b2 l p ∧ Below w.heap.size w wx))
  case first =>
    rcases a2 with _ | x
    · obtain ⟨rfl, rfl⟩ := H2.out rfl
      go_wp2
      go_meet
      exact ⟨none, 0, rfl, HR2.out, Below.refl _ _⟩
    · have hmk := mk22 l (by omega)
      obtain ⟨w3, hcp, hr3, hb3⟩ := copy_run c2 HR2.out
      have HG : Hid (RW w3 (some ⟨w.heap.size, 0, none⟩) l p ∧ Below w.heap.size w w3) := ⟨hr3, hb3⟩
      clear hr3 hb3
      go_wp2_with (simp only [hcp])
      go_meet
      exact ⟨_, _, rfl, HG⟩
  case rest =>
    obtain ⟨b2, d2, rfl, hcut⟩ := hcut
    have HC : Hid (RW wc b2 l p ∧ Below w.heap.size w wc) := hcut
    have HR : Hid (RW wc a0 n f) := HR0.out.keep HC.out.2
    clear hcut HR0 HR2 H2
    go_wp2
    go_loopw [9] (fun vi wr => ∃ k : Nat, k ≤ n ∧ vi = .int .i64 (k : Int) ∧ wc = wr ∧ Hid (∀ j, j < k → f j ≤ m)) (fun vi _ => n - (intOf vi).toNat)
    case atStart => exact ⟨0, by omega, rfl, rfl, fun j hj => absurd hj (by omega)⟩
    case round =>
      obtain ⟨k, hkn, rfl, rfl, hF⟩ := hrel
      by_cases hk : k < n
      · obtain ⟨b, off, ha, hb, cz, _, _⟩ := HR.out k hk
        have hidx := idx22 ha n c0 k hk
        clear ha hb
        by_cases hc : m < f k
        · have hdc : decide (m < f k) = true := decide_eq_true hc
          clear hc
          go_wp2
          go_ret
          exact ⟨rfl, HC.out.2⟩
        · have hdc : decide (m < f k) = false := decide_eq_false hc
          go_wp2
          go_roundw
          case rel =>
            refine ⟨k + 1, by omega, by go_num, by trivial, fun j hj => ?_⟩
            by_cases e : j = k
            · subst e
              omega
            · exact hF.out j (by omega)
          case measure => simp [intOf]; omega
      · obtain rfl : n = k := by omega
        clear hk hkn
        go_wp2
        go_loopw [10] (fun vi wr => ∃ k : Nat, k ≤ l ∧ vi = .int .i64 (k : Int) ∧ wc = wr ∧ Hid (∀ j, j < k → p j < n)) (fun vi _ => l - (intOf vi).toNat)
        case atStart => exact ⟨0, by omega, rfl, rfl, fun j hj => absurd hj (by omega)⟩
        case round =>
          obtain ⟨k, hkn, rfl, rfl, hP⟩ := hrel
          by_cases hk : k < l
          · obtain ⟨b, off, ha, hb, cz, _, _⟩ := HC.out.1 k hk
            have hidx := idx22 ha l d2 k hk
            have hw32 : IntKind.u32.wrap (n : Int) = n := by rw [IntKind.wrap_u32]; omega
            clear ha hb
            by_cases hc : (n : Int) ≤ p k
            · have hdc : decide ((n : Int) ≤ p k) = true := decide_eq_true hc
              clear hc
              go_wp2
              go_ret
              exact ⟨rfl, HC.out.2⟩
            · have hdc : decide ((n : Int) ≤ p k) = false := decide_eq_false hc
              go_wp2
              go_roundw
              case rel =>
                refine ⟨k + 1, by omega, by go_num, by trivial, fun j hj => ?_⟩
                by_cases e : j = k
                · subst e
                  omega
                · exact hP.out j (by omega)
              case measure => simp [intOf]; omega
          · obtain rfl : l = k := by omega
            clear hk hkn
            have hmb := mk26 n (by omega)
            go_wp2_with (go_at_call 8; refine (clone8 a0 n c0 f wc hn HN.out HR.out).mono ?_; rintro e w1 ⟨a, rfl, hOW⟩; have HOW : Hid (OW wc w1 a n f) := hOW; clear hOW)
            have HS := WT.hid (WT.start w1 n p)
            have HRP : Hid (RW (w1.alloc (.cells (madeCells #[.bool false] n) 4)) b2 l p ∧ (∀ x, b2 = some x → 0 < l → x.block < wc.heap.size)) := ⟨(HC.out.1.keep HOW.out.bel).keep ((Below.refl _ _).alloc (Nat.le_refl _) _), fun x hx h0 => by
              obtain ⟨b, off, hb2, hlt, _⟩ := HC.out.1 0 h0
              rw [hx] at hb2
              injection hb2 with e
              subst e
              exact hlt⟩
            clear hmb
            go_loopw [12] (fun vi wr => ∃ k : Nat, k ≤ l ∧ vi = .int .i64 (k : Int) ∧ Hid (WT (w1.alloc (.cells (madeCells #[.bool false] n) 4)) wr w1.heap.size n k p)) (fun vi _ => l - (intOf vi).toNat)
            case atStart => exact ⟨0, by omega, rfl, HS⟩
            case round =>
              clear HS
              obtain ⟨k, hkl, rfl, hT⟩ := hrel
              by_cases hk : k < l
              · obtain ⟨b, off, ha, hb, cz, z0, _⟩ := HRP.out.1 k hk
                have hidx := idx22 ha l d2 k hk
                have hpk := hP.out k hk
                obtain ⟨q, hq⟩ : ∃ q : Nat, p k = q := ⟨(p k).toNat, by omega⟩
                have hqn : q < n := by omega
                have hidg := idx26 w1.heap.size n n q hqn
                have hne : ¬ b = w1.heap.size := Nat.ne_of_lt (Nat.lt_of_lt_of_le (HRP.out.2 _ ha (by omega)) HOW.out.bel.size)
                have cz' : wr.cell? ⟨b, off + k, none⟩ = some (.int .u32 (q : Int)) := by
                  rw [← hq]
                  exact hT.out.fr.cell cz hne
                have cg := hT.out.cells q hqn
                have fg := hT.out.fz q
                have HX := WT.hid (hT.out.step hqn hq)
                clear ha hb cz z0 hpk hq hne
                go_wp2
                go_roundw
                case rel => exact ⟨k + 1, by omega, by go_num, HX⟩
                case measure => simp [intOf]; omega
              · obtain rfl : l = k := by omega
                clear hk hkl
                have HW := WK.hid (WK.start (m := m) HC.out.2 HOW.out hT.out)
                have HPR : Hid (RW (wr.alloc (.cells (wkc a n m) 51)) b2 l p ∧ ∀ x, b2 = some x → 0 < l → ¬ Own wr.heap.size a x.block) := mk_sep HOW.out HRP.out hT.out
                go_wp2_with (first
                  | (go_at_call 9; refine (new9 a n m wr).mono ?_; rintro e w' ⟨rfl, rfl⟩)
                  | (go_at_call 10; refine (markOnly10 HW.out hl HPR.out.1 HPR.out.2 hP.out HM.out.1 HM.out.2 hn hF.out).mono ?_; rintro e w4 ⟨rfl, hfr, mk', vs', f', hwk, hm0, hm1, hf'⟩; have HFI := FI.hid (FI.start HOW.out HRP.out hT.out hfr hwk hf'); clear hfr hwk hm0 hm1 hf'))
                revert HFI
                generalize wr.heap.size = B4
                intro HFI
                clear HW HPR hT
                go_loopw [14] (fun vi wr => ∃ q : Nat, q ≤ n ∧ vi = .int .i64 (q : Int) ∧ Hid (FI w wr B4 a n l w1.heap.size p mk' vs' (lay p mk' f' l))) (fun vi _ => n - (intOf vi).toNat)
                case atStart => exact ⟨0, by omega, rfl, HFI⟩
                case round =>
                  clear HFI
                  obtain ⟨q, hqn, rfl, hI⟩ := hrel
                  by_cases hq : q < n
                  · obtain ⟨bq, hbq⟩ : ∃ bq, decide (∃ j, j < l ∧ p j = (q : Int)) = bq := ⟨_, rfl⟩
                    have cq : wr.cell? ⟨w1.heap.size, q, none⟩ = some (.bool bq) := by
                      rw [← hbq]
                      exact hI.out.cells q hq
                    have HMk : Hid (∀ m, Calls Try.prog 11 #[.pointer (some ⟨B4, 0, none⟩), .int .u32 (q : Int)] (wr.drewN m) fun e w' => e = .returned (.bool bq) ∧ ∃ m', w' = wr.drewN m') := fun m => hI.out.marked hq hbq m
                    have hidx := idx26i w1.heap.size n n q hq
                    have hw32 : IntKind.u32.wrap (q : Int) = q := by rw [IntKind.wrap_u32]; omega
                    clear hbq
                    go_wp2
                    go_quiet ((go_at_call 11; refine (HMk.out _).mono ?_; rintro e w'' ⟨rfl, m', rfl⟩; exact ⟨rfl, _, rfl⟩))
                    go_wp2
                    go_roundw
                    case rel => exact ⟨q + 1, by omega, by go_num, hI.out.drewN _⟩
                    case measure => simp [intOf]; omega
                  · obtain rfl : n = q := by omega
                    clear hq hqn
                    go_wp2
                    go_ret
                    exact ⟨rfl, hI.out.wk.bel⟩
end Go.Proofs.Qxb6613152a.Wk
