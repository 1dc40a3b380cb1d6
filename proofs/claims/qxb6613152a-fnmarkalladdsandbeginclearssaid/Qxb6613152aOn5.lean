import Derived.Test.Qxb6613152aOn4
namespace Go.Proofs.Qxb6613152a.Wk
open Go.RowKit Qfr

theorem marked_no {w wr : World} {B : Nat} {a : Option Addr} {n : Nat} {mk vs : Int} {h : Nat → Int} (x : WK w wr B a n mk vs h) {q : Nat} (hq : q < n) (hb : h q < mk) :
    Calls Try.prog 11 #[.pointer (some ⟨B, 0, none⟩), .int .u32 (q : Int)] wr fun e w' => e = .returned (.bool false) ∧ ∃ m', w' = wr.drewN m' := by
  refine (marked11 x hq).mono ?_
  rintro e w' ⟨he, m', hw⟩
  have : (h q == mk) = false := by simp; omega
  rw [this] at he
  exact ⟨he, m', hw⟩

/-- what stands behind 'markOnly' -/
structure S4 (w wr w4 : World) (a : Option Addr) (n l : Nat) (m : Int) (p : Nat → Int) (mk vs : Int) (f' : Nat → Int) : Prop where
  wk : WK w w4 wr.heap.size a n mk vs (lay p mk f' l)
  fr : Fr (Own wr.heap.size a) (wr.alloc (.cells (wkc a n m) 51)) w4
  m0 : 0 ≤ mk
  m1 : mk < 4294967296
  lt : ∀ i, i < n → f' i < mk
theorem S4.hid {w wr w4 : World} {a : Option Addr} {n l : Nat} {m : Int} {p : Nat → Int} {mk vs : Int} {f' : Nat → Int} (h : S4 w wr w4 a n l m p mk vs f') : Hid (S4 w wr w4 a n l m p mk vs f') := h

theorem FJ.start {w wc w1 wr w4 w5 : World} {a b2 b3 : Option Addr} {n l l3 : Nat} {m mk vs vs5 : Int} {f f' p p3 : Nat → Int} {X Y : World} (ho : OW wc w1 a n f) (h2 : RW X b2 l p) (h3 : RW Y b3 l3 p3)
    (ht : WU (w1.alloc (.cells (madeCells #[.bool false] n) 4)) wr w1.heap.size n l3 (fun q => decide (∃ j, j < l ∧ p j = (q : Int))) p3) (h4 : S4 w wr w4 a n l m p mk vs f') (hfr : Fr (Own wr.heap.size a) w4 w5) (hwk : WK w w5 wr.heap.size a n mk vs5 (lay p3 mk (lay p mk f' l) l3)) :
    FJ w w5 wr.heap.size a n w1.heap.size (DD l l3 p p3) mk vs5 (lay p3 mk (lay p mk f' l) l3) := by
  have s2 := ht.fr.size
  rw [World.size_alloc] at s2
  have hG : ¬ Own wr.heap.size a w1.heap.size := by
    rintro (h | ⟨y, hy, h⟩)
    · omega
    · have := (ho.new y hy).2
      omega
  refine ⟨hwk, fun q hq => ?_, fun q hq => ?_⟩
  · rw [lay_or p3 mk _ q l3 h3.pos, lay_spec p mk f' q (h4.lt q hq) l h2.pos]
    rfl
  · exact hfr.cell (h4.fr.cell (cell1 (ht.cells q hq) _) hG) hG

set_option maxRecDepth 10000 in
set_option maxHeartbeats 8000000 in
theorem both_in (a0 a2 a3 : Option Addr) (n c0 l c2 l3 c3 : Nat) (m : Int) (f p p3 : Nat → Int) (w : World) (hn : n ≤ 65536) (hl : l ≤ 65536) (hl3 : l3 ≤ 65536) (hm0 : 0 ≤ m) (hm1 : m < 4294967296)
    (h0 : a0 = none → n = 0 ∧ c0 = 0) (h2 : a2 = none → l = 0 ∧ c2 = 0) (h3 : a3 = none → l3 = 0 ∧ c3 = 0) (hr0 : RW w a0 n f) (hr2 : RW w a2 l p) (hr3 : RW w a3 l3 p3) :
    Calls Try.prog 4 #[.slice a0 n c0, .int .u32 m, .slice a2 l c2, .slice a3 l3 c3] w fun e w' => e = .returned (.bool true) ∧ Below w.heap.size w w' := by
  have HN : Hid (a0 = none → n = 0 ∧ c0 = 0) := h0
  have HM : Hid (0 ≤ m ∧ m < 4294967296) := ⟨hm0, hm1⟩
  have HR0 : Hid (RW w a0 n f) := hr0
  have HR2 : Hid (RW w a2 l p) := hr2
  have HR3 : Hid (RW w a3 l3 p3) := hr3
  have H2 : Hid (a2 = none → l = 0 ∧ c2 = 0) := h2
  have H3 : Hid (a3 = none → l3 = 0 ∧ c3 = 0) := h3
  have hd0 : decide ((65536 : Int) < (n : Int)) = false := decide_eq_false (by omega)
  have hd1 : decide ((65536 : Int) < (l : Int)) = false := decide_eq_false (by omega)
  have hd3 : decide ((65536 : Int) < (l3 : Int)) = false := decide_eq_false (by omega)
  have hnq : ∀ w, (binOp .neq 22 (.slice a2 l c2) (.slice none 0 0)).run Try.prog w = .ok (.bool (!a2.isNone)) w := fun w => neq_any a2 l c2 w
  have hnq3 : ∀ w, (binOp .neq 22 (.slice a3 l3 c3) (.slice none 0 0)).run Try.prog w = .ok (.bool (!a3.isNone)) w := fun w => neq_any a3 l3 c3 w
  clear h0 h2 h3 hr0 hr2 hr3 hm0 hm1
  go_enter Try.func4, Try.ntmps4
  go_upto_if 41 with (go_at_call 12; refine (bytes12_ok a0 a2 a3 n c0 l c2 l3 c3 m hn hl hl3 w).mono ?_; rintro e w' ⟨rfl, rfl⟩)
  go_cut [2, 9] from 21 (fun v2 v9 wx => ∃ (b2 : Option Addr) (d2 : Nat), v2 = .slice b2 l d2 ∧ Hid (RW wx b2 l p ∧ Below w.heap.size w wx))
  case first =>
    rcases a2 with _ | x
    · obtain ⟨rfl, rfl⟩ := H2.out rfl
      go_wp2_with fail
      go_meet
      exact ⟨none, 0, rfl, HR2.out, Below.refl _ _⟩
    · have hmk := mk22 l (by omega)
      obtain ⟨w3, hcp, hr3, hb3⟩ := copy_run c2 HR2.out
      have HG : Hid (RW w3 (some ⟨w.heap.size, 0, none⟩) l p ∧ Below w.heap.size w w3) := ⟨hr3, hb3⟩
      clear hr3 hb3
      go_wp2_with (simp only [hcp])
      go_meet
      exact ⟨_, _, rfl, HG⟩
  case rest =>
    obtain ⟨b2, d2, rfl, hcut⟩ := hcut
    have HC0 : Hid (RW wc b2 l p ∧ Below w.heap.size w wc) := hcut
    have HR3' : Hid (RW wc a3 l3 p3) := HR3.out.keep HC0.out.2
    clear hcut HR2 H2 HR3 hnq
    go_upto_if 50 with fail
    go_cut [3, 10] from 21 (fun v3 v10 wx => ∃ (b3 : Option Addr) (d3 : Nat), v3 = .slice b3 l3 d3 ∧ Hid (RW wx b3 l3 p3 ∧ Below wc.heap.size wc wx))
    case first =>
      rcases a3 with _ | x
      · obtain ⟨rfl, rfl⟩ := H3.out rfl
        go_wp2_with fail
        go_meet
        exact ⟨none, 0, rfl, HR3'.out, Below.refl _ _⟩
      · have hmk := mk22 l3 (by omega)
        obtain ⟨w3, hcp, hr3, hb3⟩ := copy_run c3 HR3'.out
        have HG : Hid (RW w3 (some ⟨wc.heap.size, 0, none⟩) l3 p3 ∧ Below wc.heap.size wc w3) := ⟨hr3, hb3⟩
        clear hr3 hb3
        go_wp2_with (simp only [hcp])
        go_meet
        exact ⟨_, _, rfl, HG⟩
    case rest =>
      obtain ⟨b3, d3, rfl, hcut⟩ := hcut
      have HC : Hid (RW wc b2 l p ∧ RW wc b3 l3 p3 ∧ Below w.heap.size w wc) := ⟨HC0.out.1.keep hcut.out.2, hcut.out.1, HC0.out.2.trans (hcut.out.2.mono HC0.out.2.size)⟩
      have HR : Hid (RW wc a0 n f) := HR0.out.keep HC.out.2.2
      clear hcut HR0 HR3' H3 hnq3 HC0
      go_wp2
      go_loopw [12] (fun vi wr => ∃ k : Nat, k ≤ n ∧ vi = .int .i64 (k : Int) ∧ wc = wr ∧ Hid (∀ j, j < k → f j ≤ m)) (fun vi _ => n - (intOf vi).toNat)
      case atStart => exact ⟨0, by omega, rfl, rfl, fun j hj => absurd hj (by omega)⟩
      case round =>
        obtain ⟨k, hkn, rfl, rfl, hF⟩ := hrel
        by_cases hk : k < n
        · obtain ⟨b, off, ha, hb, cz, _, _⟩ := HR.out k hk
          have hidx := idx22 ha n c0 k hk
          clear ha hb
          by_cases hc : m < f k
          · have hdc : decide (m < f k) = true := decide_eq_true hc
            clear hc
            go_wp2
            go_ret
            exact ⟨rfl, HC.out.2.2⟩
          · have hdc : decide (m < f k) = false := decide_eq_false hc
            go_wp2
            go_roundw
            case rel =>
              refine ⟨k + 1, by omega, by go_num, by trivial, fun j hj => ?_⟩
              by_cases e : j = k
              · subst e
                omega
              · exact hF.out j (by omega)
            case measure => simp [intOf]; omega
        · obtain rfl : n = k := by omega
          clear hk hkn
          go_wp2
          go_loopw [13] (fun vi wr => ∃ k : Nat, k ≤ l ∧ vi = .int .i64 (k : Int) ∧ wc = wr ∧ Hid (∀ j, j < k → p j < n)) (fun vi _ => l - (intOf vi).toNat)
          case atStart => exact ⟨0, by omega, rfl, rfl, fun j hj => absurd hj (by omega)⟩
          case round =>
            obtain ⟨k, hkn, rfl, rfl, hP⟩ := hrel
            by_cases hk : k < l
            · obtain ⟨b, off, ha, hb, cz, _, _⟩ := HC.out.1 k hk
              have hidx := idx22 ha l d2 k hk
              have hw32 : IntKind.u32.wrap (n : Int) = n := by rw [IntKind.wrap_u32]; omega
              clear ha hb
              by_cases hc : (n : Int) ≤ p k
              · have hdc : decide ((n : Int) ≤ p k) = true := decide_eq_true hc
                clear hc
                go_wp2
                go_ret
                exact ⟨rfl, HC.out.2.2⟩
              · have hdc : decide ((n : Int) ≤ p k) = false := decide_eq_false hc
                go_wp2
                go_roundw
                case rel =>
                  refine ⟨k + 1, by omega, by go_num, by trivial, fun j hj => ?_⟩
                  by_cases e : j = k
                  · subst e
                    omega
                  · exact hP.out j (by omega)
                case measure => simp [intOf]; omega
            · obtain rfl : l = k := by omega
              clear hk hkn
              go_wp2
              go_loopw [14] (fun vi wr => ∃ k : Nat, k ≤ l3 ∧ vi = .int .i64 (k : Int) ∧ wc = wr ∧ Hid (∀ j, j < k → p3 j < n)) (fun vi _ => l3 - (intOf vi).toNat)
              case atStart => exact ⟨0, by omega, rfl, rfl, fun j hj => absurd hj (by omega)⟩
              case round =>
                obtain ⟨k, hkn, rfl, rfl, hP3⟩ := hrel
                by_cases hk : k < l3
                · obtain ⟨b, off, ha, hb, cz, _, _⟩ := HC.out.2.1 k hk
                  have hidx := idx22 ha l3 d3 k hk
                  have hw32 : IntKind.u32.wrap (n : Int) = n := by rw [IntKind.wrap_u32]; omega
                  clear ha hb
                  by_cases hc : (n : Int) ≤ p3 k
                  · have hdc : decide ((n : Int) ≤ p3 k) = true := decide_eq_true hc
                    clear hc
                    go_wp2
                    go_ret
                    exact ⟨rfl, HC.out.2.2⟩
                  · have hdc : decide ((n : Int) ≤ p3 k) = false := decide_eq_false hc
                    go_wp2
                    go_roundw
                    case rel =>
                      refine ⟨k + 1, by omega, by go_num, by trivial, fun j hj => ?_⟩
                      by_cases e : j = k
                      · subst e
                        omega
                      · exact hP3.out j (by omega)
                    case measure => simp [intOf]; omega
                · obtain rfl : l3 = k := by omega
                  clear hk hkn
                  have hmb := mk26 n (by omega)
                  go_wp2_with (go_at_call 8; refine (clone8 a0 n c0 f wc hn HN.out HR.out).mono ?_; rintro e w1 ⟨a, rfl, hOW⟩; have HOW : Hid (OW wc w1 a n f) := hOW; clear hOW)
                  have HS := WT.hid (WT.start w1 n p)
                  have HF2 : Hid (Far wc (w1.alloc (.cells (madeCells #[.bool false] n) 4)) b2 l p) := (Far.of HC.out.1 HOW.out.bel).one _
                  have HF3 : Hid (Far wc (w1.alloc (.cells (madeCells #[.bool false] n) 4)) b3 l3 p3) := (Far.of HC.out.2.1 HOW.out.bel).one _
                  clear hmb
                  go_loopw [16] (fun vi wr => ∃ k : Nat, k ≤ l ∧ vi = .int .i64 (k : Int) ∧ Hid (WT (w1.alloc (.cells (madeCells #[.bool false] n) 4)) wr w1.heap.size n k p)) (fun vi _ => l - (intOf vi).toNat)
                  case atStart => exact ⟨0, by omega, rfl, HS⟩
                  case round =>
                    clear HS
                    obtain ⟨k, hkl, rfl, hT⟩ := hrel
                    by_cases hk : k < l
                    · obtain ⟨b, off, ha, hb, cz, z0, _⟩ := HF2.out.1 k hk
                      have hidx := idx22 ha l d2 k hk
                      have hpk := hP.out k hk
                      obtain ⟨q, hq⟩ : ∃ q : Nat, p k = q := ⟨(p k).toNat, by omega⟩
                      have hqn : q < n := by omega
                      have hidg := idx26 w1.heap.size n n q hqn
                      have hne : ¬ b = w1.heap.size := Nat.ne_of_lt (Nat.lt_of_lt_of_le (HF2.out.2 _ ha (by omega)) HOW.out.bel.size)
                      have cz' : wr.cell? ⟨b, off + k, none⟩ = some (.int .u32 (q : Int)) := by
                        rw [← hq]
                        exact hT.out.fr.cell cz hne
                      have cg := hT.out.cells q hqn
                      have fg := hT.out.fz q
                      have HX := WT.hid (hT.out.step hqn hq)
                      clear ha hb cz z0 hpk hq hne
                      go_wp2
                      go_roundw
                      case rel => exact ⟨k + 1, by omega, by go_num, HX⟩
                      case measure => simp [intOf]; omega
                    · obtain rfl : l = k := by omega
                      clear hk hkl
                      have HS := WU.hid (WU.start hT.out p3)
                      clear hT
                      go_wp2
                      go_loopw [17] (fun vi wr => ∃ k : Nat, k ≤ l3 ∧ vi = .int .i64 (k : Int) ∧ Hid (WU (w1.alloc (.cells (madeCells #[.bool false] n) 4)) wr w1.heap.size n k (fun q => decide (∃ j, j < l ∧ p j = (q : Int))) p3)) (fun vi _ => l3 - (intOf vi).toNat)
                      case atStart => exact ⟨0, by omega, rfl, HS⟩
                      case round =>
                        clear HS
                        obtain ⟨k, hkl, rfl, hT⟩ := hrel
                        by_cases hk : k < l3
                        · obtain ⟨b, off, ha, hb, cz, z0, _⟩ := HF3.out.1 k hk
                          have hidx := idx22 ha l3 d3 k hk
                          have hpk := hP3.out k hk
                          obtain ⟨q, hq⟩ : ∃ q : Nat, p3 k = q := ⟨(p3 k).toNat, by omega⟩
                          have hqn : q < n := by omega
                          have hidg := idx26 w1.heap.size n n q hqn
                          have hne : ¬ b = w1.heap.size := Nat.ne_of_lt (Nat.lt_of_lt_of_le (HF3.out.2 _ ha (by omega)) HOW.out.bel.size)
                          have cz' : wr.cell? ⟨b, off + k, none⟩ = some (.int .u32 (q : Int)) := by
                            rw [← hq]
                            exact hT.out.fr.cell cz hne
                          have cg := hT.out.cells q hqn
                          have fg := hT.out.fz q
                          have HX := WU.hid (hT.out.step hqn hq)
                          clear ha hb cz z0 hpk hq hne
                          go_wp2
                          go_roundw
                          case rel => exact ⟨k + 1, by omega, by go_num, HX⟩
                          case measure => simp [intOf]; omega
                        · obtain rfl : l3 = k := by omega
                          clear hk hkl
                          have HSZ : Hid (wc.heap.size ≤ wr.heap.size) := by
                            have h1 := HOW.out.bel.size
                            have h2 := hT.out.fr.size
                            rw [World.size_alloc] at h2
                            show _ ≤ _
                            omega
                          have HLO : Hid (∀ k, k = w1.heap.size → wc.heap.size ≤ k) := fun k hk => by
                            have h1 := HOW.out.bel.size
                            omega
                          have HW := WK.hid (WK.start2 (m := m) HC.out.2.2 HOW.out hT.out.fr)
                          have HG2 : Hid (Far wc (wr.alloc (.cells (wkc a n m) 51)) b2 l p) := (HF2.out.frame hT.out.fr HLO.out).one _
                          have HG3 : Hid (Far wc (wr.alloc (.cells (wkc a n m) 51)) b3 l3 p3) := (HF3.out.frame hT.out.fr HLO.out).one _
                          go_wp2_with (first
                            | (go_at_call 9; refine (new9 a n m wr).mono ?_; rintro e w' ⟨rfl, rfl⟩)
                            | (go_at_call 10; refine (markOnly10 HW.out hl HG2.out.1 (HG2.out.sep HOW.out HSZ.out) hP.out HM.out.1 HM.out.2 hn hF.out).mono ?_; rintro e w4 ⟨rfl, hfr, mk', vs', f', hwk, hm0, hm1, hf'⟩; have H4 := S4.hid (S4.mk (m := m) hwk hfr hm0 hm1 hf'); clear hfr hwk hm0 hm1 hf')
                            | (go_at_call 13; refine (markAll13 H4.out.wk hl3 (HG3.out.frame H4.out.fr (own_lo HOW.out HSZ.out)).1 (HG3.out.sep HOW.out HSZ.out) hP3.out).mono ?_; rintro e w5 ⟨rfl, hfr5, vs5, hwk5⟩; have HFJ := FJ.hid (FJ.start HOW.out HG2.out.1 HG3.out.1 hT.out H4.out hfr5 hwk5); clear hfr5 hwk5))
                          have HMB : Hid (0 ≤ mk' ∧ mk' < 4294967296 ∧ ∀ i, i < n → lay p3 mk' (lay p mk' f' l) l3 i ≤ mk') := ⟨H4.out.m0, H4.out.m1, fun i hi => lay_le p3 mk' _ i (lay_le p mk' f' i (by have := H4.out.lt i hi; omega) l) l3⟩
                          clear H4 HG2 HG3 HW HSZ HLO hT
                          revert HFJ
                          generalize wr.heap.size = B4
                          generalize lay p3 mk' (lay p mk' f' l) l3 = h5 at *
                          generalize DD l l3 p p3 = D
                          intro HFJ
                          go_loopw [19] (fun vi wr => ∃ q : Nat, q ≤ n ∧ vi = .int .i64 (q : Int) ∧ Hid (FJ w wr B4 a n w1.heap.size D mk' vs5 h5)) (fun vi _ => n - (intOf vi).toNat)
                          case atStart => exact ⟨0, by omega, rfl, HFJ⟩
                          case round =>
                            clear HFJ
                            obtain ⟨q, hqn, rfl, hI⟩ := hrel
                            by_cases hq : q < n
                            · obtain ⟨bq, hbq⟩ : ∃ bq, D q = bq := ⟨_, rfl⟩
                              have cq : wr.cell? ⟨w1.heap.size, q, none⟩ = some (.bool bq) := by
                                rw [← hbq]
                                exact hI.out.cells q hq
                              have HMk : Hid (∀ m, Calls Try.prog 11 #[.pointer (some ⟨B4, 0, none⟩), .int .u32 (q : Int)] (wr.drewN m) fun e w' => e = .returned (.bool bq) ∧ ∃ m', w' = wr.drewN m') := fun m => marked_is hI.out.wk hq ((hI.out.eq q hq).trans hbq) m
                              have hidx := idx26i w1.heap.size n n q hq
                              have hw32 : IntKind.u32.wrap (q : Int) = q := by rw [IntKind.wrap_u32]; omega
                              clear hbq
                              go_wp2
                              go_quiet ((go_at_call 11; refine (HMk.out _).mono ?_; rintro e w'' ⟨rfl, m', rfl⟩; exact ⟨rfl, _, rfl⟩))
                              go_wp2
                              go_roundw
                              case rel => exact ⟨q + 1, by omega, by go_num, hI.out.drewN _⟩
                              case measure => simp [intOf]; omega
                            · obtain rfl : n = q := by omega
                              clear hq hqn
                              go_wp2_with (go_at_call 14; refine (begin14 hI.out.wk HMB.out.1 HMB.out.2.1 hn HMB.out.2.2).mono ?_; rintro e w6 ⟨rfl, _, mk6, f6, hwk6, _, _, hlt6⟩; have H6 : Hid (WK w w6 B4 a n mk6 vs5 f6) := hwk6; have HL6 : Hid (∀ i, i < n → f6 i < mk6) := hlt6; clear hwk6 hlt6)
                              go_loopw [20] (fun vi wr => ∃ q : Nat, q ≤ n ∧ vi = .int .i64 (q : Int) ∧ Hid (WK w wr B4 a n mk6 vs5 f6)) (fun vi _ => n - (intOf vi).toNat)
                              case atStart => exact ⟨0, by omega, rfl, H6⟩
                              case round =>
                                clear H6
                                obtain ⟨q, hqn, rfl, hJ⟩ := hrel
                                by_cases hq : q < n
                                · have hw32 : IntKind.u32.wrap (q : Int) = q := by rw [IntKind.wrap_u32]; omega
                                  go_wp2_with (go_at_call 11; refine (marked_no hJ.out hq (HL6.out q hq)).mono ?_; rintro e w'' ⟨rfl, m', rfl⟩)
                                  go_roundw
                                  case rel => exact ⟨q + 1, by omega, by go_num, hJ.out.drewN _⟩
                                  case measure => simp [intOf]; omega
                                · obtain rfl : n = q := by omega
                                  clear hq hqn
                                  go_wp2
                                  go_ret
                                  exact ⟨rfl, hJ.out.bel⟩
end Go.Proofs.Qxb6613152a.Wk
