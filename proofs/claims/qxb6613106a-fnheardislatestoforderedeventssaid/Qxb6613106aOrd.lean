import Derived.Test.Qxb6613106aOrd1
import Derived.Deep.CutRange
import Derived.Test.Qxb6613106aPush
namespace Go.Proofs.Qxb6613106a.Tm
open Go.RowKit Qfr

theorem bytes25_ok (a1 : Option Addr) (l1 c1 : Nat) (p : Int) (h : l1 ≤ 1048576) (w : World) :
    Calls Try.prog 25 #[.int .i64 p, .slice a1 l1 c1] w fun e w' => e = .returned (.bool true) ∧ w = w' := by
  go_enter Try.func25, Try.ntmps25
  go_wp2
  go_ret
  exact ⟨rfl, rfl⟩
theorem bytes25_no (a1 : Option Addr) (l1 c1 : Nat) (p : Int) (h : 1048576 < l1) (w : World) :
    Calls Try.prog 25 #[.int .i64 p, .slice a1 l1 c1] w fun e w' => e = .returned (.bool false) ∧ w = w' := by
  go_enter Try.func25, Try.ntmps25
  go_wp2
  go_ret
  exact ⟨rfl, rfl⟩

theorem RR.keep {w w' : World} {a : Option Addr} {n : Nat} {z : Nat → Int} (h : RR w a n z) (hb : Below w.heap.size w w') : RR w' a n z := fun i hi => by
  obtain ⟨b, off, ha, hlt, hc, h0, h1⟩ := h i hi
  exact ⟨b, off, ha, Nat.lt_of_lt_of_le hlt hb.size, (hb.cell (p := ⟨b, off + i, none⟩) hlt).trans hc, h0, h1⟩

theorem idx51s {a : Option Addr} {b off : Nat} (ha : a = some ⟨b, off, none⟩) (len cap k : Nat) (hk : k + 1 < len) (w : World) :
    (Instr.indexAt 51 (.slice a len cap) (.int .i64 ((k : Int) + 1))).run Try.prog w = .ok (.pointer (some ⟨b, off + (k + 1), none⟩)) w := idx51 ha len cap (k + 1) hk w

theorem bHid {w w' : World} (h : Below w.heap.size w w') : Hid (Below w.heap.size w w') := h

set_option maxRecDepth 10000 in
set_option maxHeartbeats 4000000 in
theorem ord_in (u : Int) (a1 : Option Addr) (n c1 : Nat) (z : Nat → Int) (w : World) (hn : n ≤ 131072) (hq : RR w a1 n z) (hu0 : -9223372036854775808 ≤ u) (hu1 : u ≤ 9223372036854775807) :
    Calls Try.prog 7 #[.int .i64 u, .slice a1 n c1] w fun e w' => e = .returned (.bool true) ∧ Below w.heap.size w w' := by
  have HQ : Hid (RR w a1 n z) := hq
  have HU : Hid (-9223372036854775808 ≤ u ∧ u ≤ 9223372036854775807) := ⟨hu0, hu1⟩
  have hd1 : decide ((131072 : Int) < (n : Int)) = false := decide_eq_false (by omega)
  clear hq hu0 hu1
  go_enter Try.func7, Try.ntmps7
  go_wp2_with (go_at_call 25; refine (bytes25_ok a1 n c1 u (by omega) w).mono ?_; rintro e w' ⟨rfl, rfl⟩)
  go_loopw [5] (fun vi wr => ∃ k : Nat, 1 ≤ k ∧ (k ≤ n ∨ k = 1) ∧ vi = .int .i64 (k : Int) ∧ Hid (∀ j, j + 1 < k → z j ≤ z (j + 1)) ∧ Hid (Below w.heap.size w wr)) (fun vi _ => n + 1 - (intOf vi).toNat)
  case atStart => exact ⟨1, by omega, by omega, rfl, fun j hj => absurd hj (by omega), Below.refl _ _⟩
  case round =>
    obtain ⟨k, hk1, hkn, rfl, hS, hB⟩ := hrel
    have HQ' : Hid (RR wr a1 n z) := HQ.out.keep hB.out
    by_cases hk : k < n
    · obtain ⟨j, rfl⟩ : ∃ j, k = j + 1 := ⟨k - 1, by omega⟩
      obtain ⟨b, off, ha, hb, cz, _, _⟩ := HQ'.out (j + 1) hk
      obtain ⟨b', off', ha', _, cz', _, _⟩ := HQ'.out j (by omega)
      obtain ⟨rfl, rfl⟩ : b = b' ∧ off = off' := by
        rw [ha] at ha'
        injection ha' with e
        injection e with e1 e2
        exact ⟨e1, e2⟩
      have hidx := idx51s ha n c1 j hk
      have hidx' := idx51 ha n c1 j (by omega)
      have hw : IntKind.i64.wrap ((j : Int)) = j := wrapN j (by omega)
      clear ha ha' hb
      by_cases hc : z (j + 1) < z j
      · have hdc : decide (z (j + 1) < z j) = true := decide_eq_true hc
        clear hc
        go_wp2
        go_quiet (fail)
        go_wp2
        go_ret
        exact ⟨rfl, below_drewN hB.out nq⟩
      · have hdc : decide (z (j + 1) < z j) = false := decide_eq_false hc
        go_wp2
        go_quiet (fail)
        go_wp2
        refine ⟨⟨j + 1 + 1, by omega, Or.inl (by omega), by go_num, fun i hi => ?_, below_drewN hB.out nq⟩, by simp [intOf]; omega⟩
        by_cases hij : i = j
        · subst hij
          omega
        · exact hS.out i (by omega)
    · have HSo : Hid (∀ j, j + 1 < n → z j ≤ z (j + 1)) := fun j hj => hS.out j (by omega)
      clear hS hkn hk1 HQ'
      have hd5 : decide ((k : Int) < (n : Int)) = false := decide_eq_false (by omega)
      clear hk
      generalize hkk : (k : Int) = K at *
      clear hkk
      have hmk := mk59n n (by omega)
      go_wp2_with (go_at_call_of 22 u; refine (add0x u HU.out.1 HU.out.2 _).mono ?_; rintro e w' ⟨rfl, rfl⟩)
      have HS := H2.hid (H2.start u n z hB.out)
      revert HS
      generalize hU : wr.heap.size + 1 + 1 + 1 = U
      generalize hE : U + 1 = E
      generalize hZ : wr.heap.size = Z0
      generalize (((((wr.alloc (.cells tz 56)).alloc (.cells (tcx u) 56)).alloc (.cells (tcx u) 56)).alloc (.cells (tcx u) 56)).alloc (.cells (madeCells ev0 (n * 5)) 61)) = W0
      intro HS
      clear hU hE hZ hmk hB
      go_loopw [9] (fun vi wr2 => ∃ i : Nat, i ≤ n ∧ vi = .int .i64 (i : Int) ∧ Hid (H2 w wr2 Z0 U E n i u z)) (fun vi _ => n - (intOf vi).toNat)
      case atStart => exact ⟨0, by omega, rfl, HS⟩
      case round =>
        clear HS
        obtain ⟨i, hin, rfl, hH⟩ := hrel
        by_cases hi : i < n
        · obtain ⟨b, off, ha, hb, cz, z0, z1⟩ := HQ.out i hi
          have hidx := idx51 ha n c1 i hi
          have hidx' := idx59 E n n i hi
          have HZK : Hid (-9223372036854775808 ≤ z i ∧ z i ≤ 9223372036854775807) := ⟨z0, z1⟩
          have y0 := hH.out.z0.c0
          have y1 := hH.out.z0.c1
          have y2 := hH.out.z0.c2
          have y3 : wr.cell? ⟨b, off + i, none⟩ = some (.int .i64 (z i)) := (hH.out.bel.cell (p := ⟨b, off + i, none⟩) hb).trans cz
          have p0 := fun o1 o2 => cell2 y0 o1 o2
          have p1 := fun o1 o2 => cell2 y1 o1 o2
          have p2 := fun o1 o2 => cell2 y2 o1 o2
          have p3 := fun o1 o2 => cell2 y3 o1 o2
          obtain ⟨v0, h0⟩ := hH.out.room (i * 5 + 2) (by omega)
          obtain ⟨v1, h1⟩ := hH.out.room (i * 5 + 2 + 1) (by omega)
          obtain ⟨v2, h2⟩ := hH.out.room (i * 5 + 2 + 1 + 1) (by omega)
          have e0 := fun o1 o2 => cell2 h0 o1 o2
          have e1 := fun o1 o2 => cell2 h1 o1 o2
          have e2 := fun o1 o2 => cell2 h2 o1 o2
          have g0 := fun o1 o2 => ((hH.out.one o1).one o2).fz (i * 5 + 2)
          have g1 := fun o1 o2 => ((hH.out.one o1).one o2).fz (i * 5 + 2 + 1)
          have g2 := fun o1 o2 => ((hH.out.one o1).one o2).fz (i * 5 + 2 + 1 + 1)
          have n0 : ¬ Z0 = E := hH.out.ne.1
          have n1 : ¬ E = Z0 := fun e => n0 e.symm
          have n2 : ¬ b = E := fun e => by
            have := hH.out.lo
            omega
          have n3 : ¬ E = b := fun e => n2 e.symm
          clear ha hb cz z0 z1 h0 h1 h2
          go_wp2
          go_region_held3 (fun w' => w'.cell? ⟨Z0, 0, none⟩ = some (.int .u64 0) ∧ w'.cell? ⟨Z0, 1, none⟩ = some (.int .i64 0) ∧ w'.cell? ⟨Z0, 2, none⟩ = some (.pointer none) ∧ w'.cell? ⟨b, off + i, none⟩ = some (.int .i64 (z i))) (simp [go_sem, *])
            ((go_at_call 22; refine (add0x (z i) HZK.out.1 HZK.out.2 _).mono ?_; rintro e w' ⟨rfl, rfl⟩))
          rename_i hHeld
          clear hHeld p0 p1 p2 p3 e0 e1 e2 g0 g1 g2 y0 y1 y2 y3 n0 n1 n2 n3
          have HX := H2.hid ((((hH.out.one (.cells (tcx (z i)) 56)).one (.cells (tcx (z i)) 56)).step hi).drew)
          go_wp2
          go_roundw
          case rel => exact ⟨i + 1, by omega, by go_num, HX⟩
          case measure => simp [intOf]; omega
        · obtain rfl : n = i := by omega
          clear hi hin
          go_wp2
          have HT := H3.hid (H3.start hH.out)
          revert HT
          generalize (wr.alloc (.cells tz 56)) = W3
          generalize wr.heap.size = P
          intro HT
          clear hH
          go_loopw [10, 12] (fun vt vk wr => ∃ (k : Nat) (t p : Int), k ≤ n + 1 ∧ vk = .int .i64 (k : Int) ∧ vt = .int .i64 t ∧ Hid (G3 n u z k t p) ∧ Hid (H3 w wr Z0 U E P n u z p)) (fun _ vk _ => n + 1 - (intOf vk).toNat)
          case atStart => exact ⟨0, u, 0, by omega, rfl, rfl, .inl ⟨rfl, rfl⟩, HT⟩
          case round =>
            clear HT
            obtain ⟨k, t, p, hkn, rfl, rfl, hG, hH⟩ := hrel
            by_cases hk : n < k
            · obtain rfl : k = n + 1 := by omega
              clear hk hkn
              go_wp2
              go_ret
              exact ⟨rfl, hH.out.bel⟩
            · have hkn' : k ≤ n := by omega
              have y0 := hH.out.cu.c0
              have y1 := hH.out.cu.c1
              have y2 := hH.out.cu.c2
              have p0 := fun o => (hH.out.one o).cu.c0
              have p1 := fun o => (hH.out.one o).cu.c1
              have p2 := fun o => (hH.out.one o).cu.c2
              have q0 := fun o1 o2 => ((hH.out.one o1).one o2).cu.c0
              have q1 := fun o1 o2 => ((hH.out.one o1).one o2).cu.c1
              have q2 := fun o1 o2 => ((hH.out.one o1).one o2).cu.c2
              have HA : Hid (Ahead Z0 U E P wr.heap.size ∧ w.heap.size ≤ wr.heap.size) := ⟨hH.out.ahead, hH.out.lt⟩
              have m0 : ¬ U = wr.heap.size := Nat.ne_of_lt HA.out.1.h1
              have m1 : ¬ wr.heap.size = U := fun e => m0 e.symm
              have m2 : ¬ U = wr.heap.size + 1 := by have := HA.out.1.h1; omega
              have m3 : ¬ wr.heap.size + 1 = U := fun e => m2 e.symm
              rcases k with _ | j
              · obtain rfl : u = t := by
                  rcases hG.out with ⟨_, h⟩ | ⟨j, h, _⟩
                  · exact h.symm
                  · exact absurd h (by omega)
                have HK := kHid (show Kth n u z 0 u from .inl ⟨rfl, rfl⟩)
                clear hG
                have hsl := sl59 E n 0 (by omega)
                go_upto_region 24 with fail
                go_cut [13] from 60 to 102 (fun v13 wx => ∃ B, v13 = .pointer (some ⟨B, 0, none⟩) ∧ Hid (H3 w wx Z0 U E P n u z p) ∧ Hid (TB wx B (u)))
                case first =>
                  go_region_held3 (fun w' => w'.cell? ⟨U, 0, none⟩ = some (.int .u64 (u % 1000000000)) ∧ w'.cell? ⟨U, 1, none⟩ = some (.int .i64 (u / 1000000000)) ∧ w'.cell? ⟨U, 2, none⟩ = some (.pointer none)) (simp [go_sem, *])
                    ((first
                      | (go_at_call 23; refine (heardO1 hn HK.out hH.out).mono ?_; rintro e w6 ⟨rfl, HX6, HN⟩; have HX6 := H3.hid HX6; have y0 := HX6.out.cu.c0; have y1 := HX6.out.cu.c1; have y2 := HX6.out.cu.c2; have n0 := HN.c0; have n1 := HN.c1; have n2 := HN.c2; have n3 := HN.f)
                      | (go_at_call 23; refine (heardO3 hn HK.out hH.out).mono ?_; rintro e w6 ⟨rfl, HX6⟩; have HX6 := H3.hid HX6; have y0 := HX6.out.cu.c0; have y1 := HX6.out.cu.c1; have y2 := HX6.out.cu.c2; have p0 := fun o => (HX6.out.one o).cu.c0; have p1 := fun o => (HX6.out.one o).cu.c1; have p2 := fun o => (HX6.out.one o).cu.c2)
                      | (go_at_call 23; refine (heardO2 hn HK.out hH.out).mono ?_; rintro e w6 ⟨rfl, HX6, HN⟩; have HX6 := H3.hid HX6; have y0 := HX6.out.cu.c0; have y1 := HX6.out.cu.c1; have y2 := HX6.out.cu.c2; have n0 := HN.c0; have n1 := HN.c1; have n2 := HN.c2; have n3 := HN.f)))
                  all_goals (try go_wp2_with fail)
                  all_goals go_meet
                  · exact ⟨_, rfl, HX6.out.one _, TB.new w6 (u)⟩
                  · exact ⟨_, rfl, HX6.out.far (by have := HA.out.2; omega) HA.out.1.up (u), HN.set (u)⟩
                  · exact ⟨_, rfl, HX6.out.far HA.out.2 HA.out.1 (u), HN.set (u)⟩
                case rest =>
                  obtain ⟨B, rfl, HX, HB⟩ := hcut
                  clear y0 y1 y2 p0 p1 p2 q0 q1 q2 m0 m1 m2 m3 hH HA hsl
                  have b0 := HB.out.c0
                  have b1 := HB.out.c1
                  have b2 := HB.out.c2
                  have z0 := HX.out.z0.c0
                  have z1 := HX.out.z0.c1
                  have z2 := HX.out.z0.c2
                  have bb0 := fun o1 o2 => ((HB.out.one o1).one o2).c0
                  have bb1 := fun o1 o2 => ((HB.out.one o1).one o2).c1
                  have bb2 := fun o1 o2 => ((HB.out.one o1).one o2).c2
                  have zz0 := fun o1 o2 => ((HX.out.one o1).one o2).z0.c0
                  have zz1 := fun o1 o2 => ((HX.out.one o1).one o2).z0.c1
                  have zz2 := fun o1 o2 => ((HX.out.one o1).one o2).z0.c2
                  have bd0 := fun o1 o2 o3 o4 => ((((HB.out.one o1).one o2).one o3).one o4).c0
                  have bd1 := fun o1 o2 o3 o4 => ((((HB.out.one o1).one o2).one o3).one o4).c1
                  have bd2 := fun o1 o2 o3 o4 => ((((HB.out.one o1).one o2).one o3).one o4).c2
                  have zd0 := fun o1 o2 o3 o4 => ((((HX.out.one o1).one o2).one o3).one o4).z0.c0
                  have zd1 := fun o1 o2 o3 o4 => ((((HX.out.one o1).one o2).one o3).one o4).z0.c1
                  have zd2 := fun o1 o2 o3 o4 => ((((HX.out.one o1).one o2).one o3).one o4).z0.c2
                  have pd0 := fun o1 o2 o3 o4 => ((((HX.out.one o1).one o2).one o3).one o4).cp.c0
                  have pd1 := fun o1 o2 o3 o4 => ((((HX.out.one o1).one o2).one o3).one o4).cp.c1
                  have pd2 := fun o1 o2 o3 o4 => ((((HX.out.one o1).one o2).one o3).one o4).cp.c2
                  have HBd : Hid (-9223372036854775808 ≤ u ∧ u ≤ 9223372036854775807) := HK.out.bounds HQ.out HU.out
                  have pf0 := fun o1 o2 o3 o4 => ((((HX.out.one o1).one o2).one o3).one o4).fz 0
                  have pf1 := fun o1 o2 o3 o4 => ((((HX.out.one o1).one o2).one o3).one o4).fz 1
                  have pf2 := fun o1 o2 o3 o4 => ((((HX.out.one o1).one o2).one o3).one o4).fz 2
                  go_wp2
                  go_region_held3 (fun w' => w'.cell? ⟨B, 0, none⟩ = some (.int .u64 ((u) % 1000000000)) ∧ w'.cell? ⟨B, 1, none⟩ = some (.int .i64 ((u) / 1000000000)) ∧ w'.cell? ⟨B, 2, none⟩ = some (.pointer none) ∧ w'.cell? ⟨Z0, 0, none⟩ = some (.int .u64 0) ∧ w'.cell? ⟨Z0, 1, none⟩ = some (.int .i64 0) ∧ w'.cell? ⟨Z0, 2, none⟩ = some (.pointer none)) (simp [go_sem, *])
                    ((first | (go_at_call 22; refine (add0x (u) HBd.out.1 HBd.out.2 _).mono ?_; rintro e w' ⟨rfl, rfl⟩) | (go_at_call 24; refine (equal_same (u) _).mono ?_; rintro e w' ⟨rfl, rfl⟩)))
                  rename_i hHeld
                  clear hHeld b0 b1 b2 z0 z1 z2 bb0 bb1 bb2 zz0 zz1 zz2 zd0 zd1 zd2
                  go_wp2
                  exact ⟨⟨1, u, u, by omega, rfl, rfl, G3.next HK.out, (((((HX.out.one _).one _).one _).one _).step u).drew⟩, by first | (simp [intOf]; done) | (simp [intOf]; omega)⟩
              · obtain ⟨hk', hp⟩ : Kth n u z j t ∧ t = p := by
                  rcases hG.out with ⟨h, _⟩ | ⟨j', h, hk', hp⟩
                  · exact absurd h (by omega)
                  · obtain rfl : j = j' := by omega
                    exact ⟨hk', hp.symm⟩
                subst hp
                clear hG
                obtain ⟨b, off, ha, hb, cz, _, _⟩ := HQ.out j (by omega)
                have hidx := idx51 ha n c1 j (by omega)
                have hw : IntKind.i64.wrap ((j : Int)) = j := wrapN j (by omega)
                have cz' : wr.cell? ⟨b, off + j, none⟩ = some (.int .i64 (z j)) := (hH.out.bel.cell (p := ⟨b, off + j, none⟩) hb).trans cz
                have hsl := sl59s E n j (by omega)
                clear ha hb cz
                by_cases hc : t < z j
                · have hdc : decide (t < z j) = true := decide_eq_true hc
                  have HK := kHid (hk'.up hc (by omega))
                  have hle : Hid (t ≤ z j) := Int.le_of_lt hc
                  clear hk' hc
                  go_upto_region 24 with fail
                  go_cut [13] from 60 to 102 (fun v13 wx => ∃ B, v13 = .pointer (some ⟨B, 0, none⟩) ∧ Hid (H3 w wx Z0 U E P n u z t) ∧ Hid (TB wx B (z j)))
                  case first =>
                    go_region_held3 (fun w' => w'.cell? ⟨U, 0, none⟩ = some (.int .u64 (u % 1000000000)) ∧ w'.cell? ⟨U, 1, none⟩ = some (.int .i64 (u / 1000000000)) ∧ w'.cell? ⟨U, 2, none⟩ = some (.pointer none)) (simp [go_sem, *])
                      ((first
                        | (go_at_call 23; refine (heardO1 hn HK.out hH.out).mono ?_; rintro e w6 ⟨rfl, HX6, HN⟩; have HX6 := H3.hid HX6; have y0 := HX6.out.cu.c0; have y1 := HX6.out.cu.c1; have y2 := HX6.out.cu.c2; have n0 := HN.c0; have n1 := HN.c1; have n2 := HN.c2; have n3 := HN.f)
                        | (go_at_call 23; refine (heardO3 hn HK.out hH.out).mono ?_; rintro e w6 ⟨rfl, HX6⟩; have HX6 := H3.hid HX6; have y0 := HX6.out.cu.c0; have y1 := HX6.out.cu.c1; have y2 := HX6.out.cu.c2; have p0 := fun o => (HX6.out.one o).cu.c0; have p1 := fun o => (HX6.out.one o).cu.c1; have p2 := fun o => (HX6.out.one o).cu.c2)
                        | (go_at_call 23; refine (heardO2 hn HK.out hH.out).mono ?_; rintro e w6 ⟨rfl, HX6, HN⟩; have HX6 := H3.hid HX6; have y0 := HX6.out.cu.c0; have y1 := HX6.out.cu.c1; have y2 := HX6.out.cu.c2; have n0 := HN.c0; have n1 := HN.c1; have n2 := HN.c2; have n3 := HN.f)))
                    all_goals (try go_wp2_with fail)
                    all_goals go_meet
                    · exact ⟨_, rfl, HX6.out.one _, TB.new w6 (z j)⟩
                    · exact ⟨_, rfl, HX6.out.far (by have := HA.out.2; omega) HA.out.1.up (z j), HN.set (z j)⟩
                    · exact ⟨_, rfl, HX6.out.far HA.out.2 HA.out.1 (z j), HN.set (z j)⟩
                  case rest =>
                    obtain ⟨B, rfl, HX, HB⟩ := hcut
                    clear y0 y1 y2 p0 p1 p2 q0 q1 q2 m0 m1 m2 m3 hH HA hsl cz'
                    have b0 := HB.out.c0
                    have b1 := HB.out.c1
                    have b2 := HB.out.c2
                    have z0 := HX.out.z0.c0
                    have z1 := HX.out.z0.c1
                    have z2 := HX.out.z0.c2
                    have bb0 := fun o1 o2 => ((HB.out.one o1).one o2).c0
                    have bb1 := fun o1 o2 => ((HB.out.one o1).one o2).c1
                    have bb2 := fun o1 o2 => ((HB.out.one o1).one o2).c2
                    have zz0 := fun o1 o2 => ((HX.out.one o1).one o2).z0.c0
                    have zz1 := fun o1 o2 => ((HX.out.one o1).one o2).z0.c1
                    have zz2 := fun o1 o2 => ((HX.out.one o1).one o2).z0.c2
                    have bd0 := fun o1 o2 o3 o4 => ((((HB.out.one o1).one o2).one o3).one o4).c0
                    have bd1 := fun o1 o2 o3 o4 => ((((HB.out.one o1).one o2).one o3).one o4).c1
                    have bd2 := fun o1 o2 o3 o4 => ((((HB.out.one o1).one o2).one o3).one o4).c2
                    have zd0 := fun o1 o2 o3 o4 => ((((HX.out.one o1).one o2).one o3).one o4).z0.c0
                    have zd1 := fun o1 o2 o3 o4 => ((((HX.out.one o1).one o2).one o3).one o4).z0.c1
                    have zd2 := fun o1 o2 o3 o4 => ((((HX.out.one o1).one o2).one o3).one o4).z0.c2
                    have pd0 := fun o1 o2 o3 o4 => ((((HX.out.one o1).one o2).one o3).one o4).cp.c0
                    have pd1 := fun o1 o2 o3 o4 => ((((HX.out.one o1).one o2).one o3).one o4).cp.c1
                    have pd2 := fun o1 o2 o3 o4 => ((((HX.out.one o1).one o2).one o3).one o4).cp.c2
                    have HBd : Hid (-9223372036854775808 ≤ z j ∧ z j ≤ 9223372036854775807) := HK.out.bounds HQ.out HU.out
                    have bf0 := fun o1 o2 o3 o4 o5 o6 => ((((((HB.out.one o1).one o2).one o3).one o4).one o5).one o6).c0
                    have pc0 := fun o1 o2 o3 o4 o5 o6 => ((((((HX.out.one o1).one o2).one o3).one o4).one o5).one o6).cp.c0
                    have pf0 := fun o1 o2 o3 o4 o5 o6 => ((((((HX.out.one o1).one o2).one o3).one o4).one o5).one o6).fz 0
                    have bf1 := fun o1 o2 o3 o4 o5 o6 => ((((((HB.out.one o1).one o2).one o3).one o4).one o5).one o6).c1
                    have pc1 := fun o1 o2 o3 o4 o5 o6 => ((((((HX.out.one o1).one o2).one o3).one o4).one o5).one o6).cp.c1
                    have pf1 := fun o1 o2 o3 o4 o5 o6 => ((((((HX.out.one o1).one o2).one o3).one o4).one o5).one o6).fz 1
                    have bf2 := fun o1 o2 o3 o4 o5 o6 => ((((((HB.out.one o1).one o2).one o3).one o4).one o5).one o6).c2
                    have pc2 := fun o1 o2 o3 o4 o5 o6 => ((((((HX.out.one o1).one o2).one o3).one o4).one o5).one o6).cp.c2
                    have pf2 := fun o1 o2 o3 o4 o5 o6 => ((((((HX.out.one o1).one o2).one o3).one o4).one o5).one o6).fz 2
                    go_wp2
                    go_region_held3 (fun w' => w'.cell? ⟨B, 0, none⟩ = some (.int .u64 ((z j) % 1000000000)) ∧ w'.cell? ⟨B, 1, none⟩ = some (.int .i64 ((z j) / 1000000000)) ∧ w'.cell? ⟨B, 2, none⟩ = some (.pointer none) ∧ w'.cell? ⟨Z0, 0, none⟩ = some (.int .u64 0) ∧ w'.cell? ⟨Z0, 1, none⟩ = some (.int .i64 0) ∧ w'.cell? ⟨Z0, 2, none⟩ = some (.pointer none)) (simp [go_sem, *])
                      ((first | (go_at_call 22; refine (add0x (z j) HBd.out.1 HBd.out.2 _).mono ?_; rintro e w' ⟨rfl, rfl⟩) | (go_at_call 24; refine (equal_same (z j) _).mono ?_; rintro e w' ⟨rfl, rfl⟩)))
                    rename_i hHeld
                    clear hHeld b0 b1 b2 z0 z1 z2 bb0 bb1 bb2 zz0 zz1 zz2 zd0 zd1 zd2
                    go_wp2_with (go_at_call 26; refine (before_no (z j) t hle.out _).mono ?_; rintro e w' ⟨rfl, rfl⟩)
                    exact ⟨⟨j + 1 + 1, z j, z j, by omega, by go_num, rfl, G3.next HK.out, (((((((HX.out.one _).one _).one _).one _).one _).one _).step (z j)).drew⟩, by first | (simp [intOf]; done) | (simp [intOf]; omega)⟩
                · have hdc : decide (t < z j) = false := decide_eq_false hc
                  have HK := kHid (hk'.stay HSo.out (by omega) (by omega))
                  have hle : Hid (t ≤ t) := Int.le_refl t
                  clear hk' hc
                  go_upto_region 24 with fail
                  go_cut [13] from 60 to 102 (fun v13 wx => ∃ B, v13 = .pointer (some ⟨B, 0, none⟩) ∧ Hid (H3 w wx Z0 U E P n u z t) ∧ Hid (TB wx B (t)))
                  case first =>
                    go_region_held3 (fun w' => w'.cell? ⟨U, 0, none⟩ = some (.int .u64 (u % 1000000000)) ∧ w'.cell? ⟨U, 1, none⟩ = some (.int .i64 (u / 1000000000)) ∧ w'.cell? ⟨U, 2, none⟩ = some (.pointer none)) (simp [go_sem, *])
                      ((first
                        | (go_at_call 23; refine (heardO1 hn HK.out hH.out).mono ?_; rintro e w6 ⟨rfl, HX6, HN⟩; have HX6 := H3.hid HX6; have y0 := HX6.out.cu.c0; have y1 := HX6.out.cu.c1; have y2 := HX6.out.cu.c2; have n0 := HN.c0; have n1 := HN.c1; have n2 := HN.c2; have n3 := HN.f)
                        | (go_at_call 23; refine (heardO3 hn HK.out hH.out).mono ?_; rintro e w6 ⟨rfl, HX6⟩; have HX6 := H3.hid HX6; have y0 := HX6.out.cu.c0; have y1 := HX6.out.cu.c1; have y2 := HX6.out.cu.c2; have p0 := fun o => (HX6.out.one o).cu.c0; have p1 := fun o => (HX6.out.one o).cu.c1; have p2 := fun o => (HX6.out.one o).cu.c2)
                        | (go_at_call 23; refine (heardO2 hn HK.out hH.out).mono ?_; rintro e w6 ⟨rfl, HX6, HN⟩; have HX6 := H3.hid HX6; have y0 := HX6.out.cu.c0; have y1 := HX6.out.cu.c1; have y2 := HX6.out.cu.c2; have n0 := HN.c0; have n1 := HN.c1; have n2 := HN.c2; have n3 := HN.f)))
                    all_goals (try go_wp2_with fail)
                    all_goals go_meet
                    · exact ⟨_, rfl, HX6.out.one _, TB.new w6 (t)⟩
                    · exact ⟨_, rfl, HX6.out.far (by have := HA.out.2; omega) HA.out.1.up (t), HN.set (t)⟩
                    · exact ⟨_, rfl, HX6.out.far HA.out.2 HA.out.1 (t), HN.set (t)⟩
                  case rest =>
                    obtain ⟨B, rfl, HX, HB⟩ := hcut
                    clear y0 y1 y2 p0 p1 p2 q0 q1 q2 m0 m1 m2 m3 hH HA hsl cz'
                    have b0 := HB.out.c0
                    have b1 := HB.out.c1
                    have b2 := HB.out.c2
                    have z0 := HX.out.z0.c0
                    have z1 := HX.out.z0.c1
                    have z2 := HX.out.z0.c2
                    have bb0 := fun o1 o2 => ((HB.out.one o1).one o2).c0
                    have bb1 := fun o1 o2 => ((HB.out.one o1).one o2).c1
                    have bb2 := fun o1 o2 => ((HB.out.one o1).one o2).c2
                    have zz0 := fun o1 o2 => ((HX.out.one o1).one o2).z0.c0
                    have zz1 := fun o1 o2 => ((HX.out.one o1).one o2).z0.c1
                    have zz2 := fun o1 o2 => ((HX.out.one o1).one o2).z0.c2
                    have bd0 := fun o1 o2 o3 o4 => ((((HB.out.one o1).one o2).one o3).one o4).c0
                    have bd1 := fun o1 o2 o3 o4 => ((((HB.out.one o1).one o2).one o3).one o4).c1
                    have bd2 := fun o1 o2 o3 o4 => ((((HB.out.one o1).one o2).one o3).one o4).c2
                    have zd0 := fun o1 o2 o3 o4 => ((((HX.out.one o1).one o2).one o3).one o4).z0.c0
                    have zd1 := fun o1 o2 o3 o4 => ((((HX.out.one o1).one o2).one o3).one o4).z0.c1
                    have zd2 := fun o1 o2 o3 o4 => ((((HX.out.one o1).one o2).one o3).one o4).z0.c2
                    have pd0 := fun o1 o2 o3 o4 => ((((HX.out.one o1).one o2).one o3).one o4).cp.c0
                    have pd1 := fun o1 o2 o3 o4 => ((((HX.out.one o1).one o2).one o3).one o4).cp.c1
                    have pd2 := fun o1 o2 o3 o4 => ((((HX.out.one o1).one o2).one o3).one o4).cp.c2
                    have HBd : Hid (-9223372036854775808 ≤ t ∧ t ≤ 9223372036854775807) := HK.out.bounds HQ.out HU.out
                    have bf0 := fun o1 o2 o3 o4 o5 o6 => ((((((HB.out.one o1).one o2).one o3).one o4).one o5).one o6).c0
                    have pc0 := fun o1 o2 o3 o4 o5 o6 => ((((((HX.out.one o1).one o2).one o3).one o4).one o5).one o6).cp.c0
                    have pf0 := fun o1 o2 o3 o4 o5 o6 => ((((((HX.out.one o1).one o2).one o3).one o4).one o5).one o6).fz 0
                    have bf1 := fun o1 o2 o3 o4 o5 o6 => ((((((HB.out.one o1).one o2).one o3).one o4).one o5).one o6).c1
                    have pc1 := fun o1 o2 o3 o4 o5 o6 => ((((((HX.out.one o1).one o2).one o3).one o4).one o5).one o6).cp.c1
                    have pf1 := fun o1 o2 o3 o4 o5 o6 => ((((((HX.out.one o1).one o2).one o3).one o4).one o5).one o6).fz 1
                    have bf2 := fun o1 o2 o3 o4 o5 o6 => ((((((HB.out.one o1).one o2).one o3).one o4).one o5).one o6).c2
                    have pc2 := fun o1 o2 o3 o4 o5 o6 => ((((((HX.out.one o1).one o2).one o3).one o4).one o5).one o6).cp.c2
                    have pf2 := fun o1 o2 o3 o4 o5 o6 => ((((((HX.out.one o1).one o2).one o3).one o4).one o5).one o6).fz 2
                    go_wp2
                    go_region_held3 (fun w' => w'.cell? ⟨B, 0, none⟩ = some (.int .u64 ((t) % 1000000000)) ∧ w'.cell? ⟨B, 1, none⟩ = some (.int .i64 ((t) / 1000000000)) ∧ w'.cell? ⟨B, 2, none⟩ = some (.pointer none) ∧ w'.cell? ⟨Z0, 0, none⟩ = some (.int .u64 0) ∧ w'.cell? ⟨Z0, 1, none⟩ = some (.int .i64 0) ∧ w'.cell? ⟨Z0, 2, none⟩ = some (.pointer none)) (simp [go_sem, *])
                      ((first | (go_at_call 22; refine (add0x (t) HBd.out.1 HBd.out.2 _).mono ?_; rintro e w' ⟨rfl, rfl⟩) | (go_at_call 24; refine (equal_same (t) _).mono ?_; rintro e w' ⟨rfl, rfl⟩)))
                    rename_i hHeld
                    clear hHeld b0 b1 b2 z0 z1 z2 bb0 bb1 bb2 zz0 zz1 zz2 zd0 zd1 zd2
                    go_wp2_with (go_at_call 26; refine (before_no (t) t hle.out _).mono ?_; rintro e w' ⟨rfl, rfl⟩)
                    exact ⟨⟨j + 1 + 1, t, t, by omega, by go_num, rfl, G3.next HK.out, (((((((HX.out.one _).one _).one _).one _).one _).one _).step (t)).drew⟩, by first | (simp [intOf]; done) | (simp [intOf]; omega)⟩
end Go.Proofs.Qxb6613106a.Tm
