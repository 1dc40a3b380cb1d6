import Derived.Test.Qxb6613106aTr
import Derived.Test.Qxb6613106aPush
namespace Go.Proofs.Qxb6613106a.Tm
open Go.RowKit Qfr

theorem tbHid {w : World} {b : Nat} {d : Int} (h : TB w b d) : Hid (TB w b d) := h

set_option maxRecDepth 10000 in
set_option maxHeartbeats 2000000 in
theorem last_in (u r : Int) (a1 : Option Addr) (n c1 : Nat) (z : Nat → Int) (w : World) (hn : n ≤ 131072) (hq : RR w a1 n z) (hu0 : -9223372036854775808 ≤ u) (hu1 : u ≤ 9223372036854775807) (hr0 : -9223372036854775808 ≤ r) (hr1 : r ≤ 9223372036854775807) :
    Calls Try.prog 6 #[.int .i64 u, .slice a1 n c1, .int .i64 r] w fun e w' => e = .returned (.bool true) ∧ Below w.heap.size w w' := by
  have HQ : Hid (RR w a1 n z) := hq
  have HU : Hid (-9223372036854775808 ≤ u ∧ u ≤ 9223372036854775807) := ⟨hu0, hu1⟩
  have HR : Hid (-9223372036854775808 ≤ r ∧ r ≤ 9223372036854775807) := ⟨hr0, hr1⟩
  have hmk := mk59 n (by omega)
  have hd1 : decide ((131072 : Int) < (n : Int)) = false := decide_eq_false (by omega)
  clear hq hu0 hu1 hr0 hr1
  go_enter Try.func6, Try.ntmps6
  go_wp2_with (first
    | (go_at_call 21; refine (bytes21_ok a1 n c1 u r (by omega) w).mono ?_; rintro e w' ⟨rfl, rfl⟩)
    | (go_at_call_of 22 r; refine (add0x r HR.out.1 HR.out.2 _).mono ?_; rintro e w' ⟨rfl, rfl⟩)
    | (go_at_call_of 22 u; refine (add0x u HU.out.1 HU.out.2 _).mono ?_; rintro e w' ⟨rfl, rfl⟩))
  obtain ⟨i0, hi, hz0, hz1, hz2⟩ := info_parts info61
  have HI : Hid (Try.prog.info? 61 = some i0) := hi
  have HZ0 : Hid (i0.zero = some (.agg ev0)) := hz0
  have HZ1 : Hid (i0.size = 5) := hz1
  have HZ2 : Hid (i0.bytes = 56) := hz2
  clear hi hz0 hz1 hz2
  have HS := E1.start w u r n (by omega)
  revert HS
  generalize hU : w.heap.size + 1 + 1 + 1 = U
  generalize hRb : U + 1 + 1 + 1 = Rb
  generalize hE : Rb + 1 = E
  generalize ((((((((w.alloc (.cells tz 56)).alloc (.cells (tcx u) 56)).alloc (.cells (tcx u) 56)).alloc (.cells (tcx u) 56)).alloc (.cells (tcx r) 56)).alloc (.cells (tcx r) 56)).alloc (.cells (tcx r) 56)).alloc (.cells (madeCells ev0 ((n + 1) * 5)) 61)) = W0
  intro HS
  clear hU hRb hE
  go_loopw [10, 11] (fun ve vi wr => ∃ k : Nat, k ≤ n ∧ vi = .int .i64 (k : Int) ∧ Hid (E1 w wr U Rb E ve k u r)) (fun _ vi _ => n - (intOf vi).toNat)
  case atStart => exact ⟨0, by omega, rfl, HS⟩
  case round =>
    obtain ⟨k, hkn, rfl, hE1⟩ := hrel
    clear HS
    by_cases hk : k < n
    · obtain ⟨b, off, ha, hb, cz, z0, z1⟩ := HQ.out k hk
      have hidx := idx51 ha n c1 k hk
      obtain ⟨y0, y1, y2⟩ := tm_cells hE1.out.b0
      have y3 : wr.cell? ⟨b, off + k, none⟩ = some (.int .i64 (z k)) := (hE1.out.bel.cell (p := ⟨b, off + k, none⟩) hb).trans cz
      obtain ⟨xs, hxs⟩ := hE1.out.own
      have p0 := fun o1 o2 => cell2 y0 o1 o2
      have p1 := fun o1 o2 => cell2 y1 o1 o2
      have p2 := fun o1 o2 => cell2 y2 o1 o2
      have p3 := fun o1 o2 => cell2 y3 o1 o2
      have q0 := fun o1 o2 o3 => cell3 y0 o1 o2 o3
      have q1 := fun o1 o2 o3 => cell3 y1 o1 o2 o3
      have q2 := fun o1 o2 o3 => cell3 y2 o1 o2 o3
      have q3 := fun o1 o2 o3 => cell3 y3 o1 o2 o3
      have HZK : Hid (-9223372036854775808 ≤ z k ∧ z k ≤ 9223372036854775807) := ⟨z0, z1⟩
      have HFR : Hid (Fr (fun _ => False) wr (((wr.alloc (.cells (tcx (z k)) 56)).alloc (.cells (tcx (z k)) 56)).alloc (.cells #[.string ⟨#[]⟩, .string ⟨#[]⟩, .int .u64 (z k % 1000000000), .int .i64 (z k / 1000000000), .pointer none] 61)).drew) := ((fr_allocs2 wr _ _).alloc _).drew
      have HO : Hid ((((wr.alloc (.cells (tcx (z k)) 56)).alloc (.cells (tcx (z k)) 56)).alloc (.cells #[.string ⟨#[]⟩, .string ⟨#[]⟩, .int .u64 (z k % 1000000000), .int .i64 (z k / 1000000000), .pointer none] 61)).drew.ownsRow E 61 5 u10 k xs) := (((hxs.alloc _).alloc _).alloc _)
      have HN : Hid (∀ j u, (evc (z k))[j]? = some u → (((wr.alloc (.cells (tcx (z k)) 56)).alloc (.cells (tcx (z k)) 56)).alloc (.cells #[.string ⟨#[]⟩, .string ⟨#[]⟩, .int .u64 (z k % 1000000000), .int .i64 (z k / 1000000000), .pointer none] 61)).drew.cell? ((⟨wr.heap.size + 1 + 1, 0, none⟩ : Addr).add j) = some u) := news61 (W := (wr.alloc (.cells (tcx (z k)) 56)).alloc (.cells (tcx (z k)) 56)) (by simp) (z k)
      have HBB : Hid (E ≤ (((wr.alloc (.cells (tcx (z k)) 56)).alloc (.cells (tcx (z k)) 56)).alloc (.cells #[.string ⟨#[]⟩, .string ⟨#[]⟩, .int .u64 (z k % 1000000000), .int .i64 (z k / 1000000000), .pointer none] 61)).drew.heap.size) := Nat.le_trans hE1.out.lo.2 HFR.out.size
      have HB : Hid (b < w.heap.size ∧ w.cell? ⟨b, off + k, none⟩ = some (.int .i64 (z k))) := ⟨hb, cz⟩
      clear ha cz z0 z1 hxs hb
      go_wp2
      go_region_held3 (fun w' => w'.cell? ⟨w.heap.size, 0, none⟩ = some (.int .u64 0) ∧ w'.cell? ⟨w.heap.size, 1, none⟩ = some (.int .i64 0) ∧ w'.cell? ⟨w.heap.size, 2, none⟩ = some (.pointer none) ∧ w'.cell? ⟨b, off + k, none⟩ = some (.int .i64 (z k))) (simp [go_sem, *])
        ((first
          | (go_at_call 22; refine (add0x (z k) HZK.out.1 HZK.out.2 _).mono ?_; rintro e w' ⟨rfl, rfl⟩)
          | (refine step_append_lies _ rfl (.tmp 40) (.tmp 48) 59 rfl E 61 i0 (.agg ev0) 5 56 Try.underlying59 HI.out HZ0.out HZ1.out HZ2.out rfl (by decide) u10 k xs rfl HO.out ⟨wr.heap.size + 1 + 1, 0, none⟩ 1 1 (evc (z k)) rfl rfl HN.out (evc_one _) (by decide) (by unfold maxLen; omega) (by omega) HBB.out _ rfl ?_; intro g cap w4 hown4 hgrow4 hat4 hlt4; have HX := E1.hid (hE1.out.next HFR.out HO.out ⟨_, hown4⟩ hgrow4); clear hown4 hgrow4 hat4 hlt4; have s0 := (tm_cells HX.out.b0).1; have s1 := (tm_cells HX.out.b0).2.1; have s2 := (tm_cells HX.out.b0).2.2; have s3 := (HX.out.bel.cell (p := ⟨b, off + k, none⟩) HB.out.1).trans HB.out.2)))
      rename_i hHeld
      clear hHeld s0 s1 s2 s3 p0 p1 p2 p3 q0 q1 q2 q3 y0 y1 y2 y3 HFR HO HN HBB HB HZK
      go_wp2
      go_roundw
      case rel => exact ⟨k + 1, by omega, by go_num, HX⟩
      case measure => simp [intOf]; omega
    · obtain rfl : k = n := by omega
      obtain ⟨y0, y1, y2⟩ := tm_cells hE1.out.bu
      obtain ⟨y3, y4, y5⟩ := tm_cells hE1.out.br
      obtain ⟨xs, hxs⟩ := hE1.out.own
      have HO : Hid ((wr.alloc (.cells #[.string ⟨#[]⟩, .string ⟨#[]⟩, .int .u64 (r % 1000000000), .int .i64 (r / 1000000000), .pointer none] 61)).ownsRow E 61 5 u10 k xs) := hxs.alloc _
      have HFR : Hid (Fr (fun _ => False) wr (wr.alloc (.cells #[.string ⟨#[]⟩, .string ⟨#[]⟩, .int .u64 (r % 1000000000), .int .i64 (r / 1000000000), .pointer none] 61))) := (Fr.refl _ wr).alloc _
      have HN : Hid (∀ j u, (evc r)[j]? = some u → (wr.alloc (.cells #[.string ⟨#[]⟩, .string ⟨#[]⟩, .int .u64 (r % 1000000000), .int .i64 (r / 1000000000), .pointer none] 61)).cell? ((⟨wr.heap.size, 0, none⟩ : Addr).add j) = some u) := news61 (W := wr) rfl r
      have HBB : Hid (E ≤ (wr.alloc (.cells #[.string ⟨#[]⟩, .string ⟨#[]⟩, .int .u64 (r % 1000000000), .int .i64 (r / 1000000000), .pointer none] 61)).heap.size) := Nat.le_trans hE1.out.lo.2 HFR.out.size
      clear hxs
      by_cases hc : u < r
      · have hdc : decide (u < r) = true := decide_eq_true hc
        have hite : (if u < r then r else u) = r := if_pos hc
        clear hc
        go_wp2_with (first
          | (at_builtin; refine wpList_append_lies _ rfl (.tmp 50) (.tmp 53) 59 rfl E 61 i0 (.agg ev0) 5 56 Try.underlying59 HI.out HZ0.out HZ1.out HZ2.out rfl (by decide) u10 k xs rfl HO.out ⟨wr.heap.size, 0, none⟩ 1 1 (evc r) rfl rfl HN.out (evc_one _) (by decide) (by unfold maxLen; omega) (by omega) HBB.out _ rfl ?_; intro g cap w4 hown4 hgrow4 hat4 hlt4; have HX := F1.hid (F1.start hE1.out HFR.out HO.out hown4 hgrow4); clear hown4 hgrow4 hat4 hlt4 HO HN HBB HFR y0 y1 y2 y3 y4 y5; obtain ⟨y0, y1, y2⟩ := HX.out.cu; obtain ⟨y3, y4, y5⟩ := HX.out.cr; have p0 := fun o1 => cell1 y0 o1; have p1 := fun o1 => cell1 y1 o1; have p2 := fun o1 => cell1 y2 o1; have p3 := fun o1 => cell1 y3 o1; have p4 := fun o1 => cell1 y4 o1; have p5 := fun o1 => cell1 y5 o1)
          | (go_at_call_of 23 w8; refine (heardC HX8.out T4.out T6.out).mono ?_; rintro e w9 ⟨rfl, HX9, T4, T6, T8⟩; have HX9 := F1.hid HX9; clear HX8 p0 p1 p2; have t0 := fun o => (T4.one o).c0; have t1 := fun o => (T4.one o).c1; have t2 := fun o => (T4.one o).c2; have t3 := fun o => (T6.one o).c0; have t4 := fun o => (T6.one o).c1; have t5 := fun o => (T6.one o).c2; have t6 := fun o1 o2 o3 => (((T6.one o1).one o2).one o3).c0; have t7 := fun o1 o2 o3 => (((T6.one o1).one o2).one o3).c1; have t8 := fun o1 o2 o3 => (((T6.one o1).one o2).one o3).c2; have t9 := fun o1 o2 o3 => (((T8.one o1).one o2).one o3).c0; have t10 := fun o1 o2 o3 => (((T8.one o1).one o2).one o3).c1; have t11 := fun o1 o2 o3 => (((T8.one o1).one o2).one o3).c2; have t12 := fun o1 o2 o3 o4 => (((((TB.new w9 u).one o1).one o2).one o3).one o4).c0; have t13 := fun o1 o2 o3 o4 => (((((TB.new w9 u).one o1).one o2).one o3).one o4).c1; have t14 := fun o1 o2 o3 o4 => (((((TB.new w9 u).one o1).one o2).one o3).one o4).c2; have t15 := fun o1 o2 o3 o4 o5 => (((((HX9.out.one o1).one o2).one o3).one o4).one o5).cu.1; have t16 := fun o1 o2 o3 o4 o5 => (((((HX9.out.one o1).one o2).one o3).one o4).one o5).cu.2.1; have t17 := fun o1 o2 o3 o4 o5 => (((((HX9.out.one o1).one o2).one o3).one o4).one o5).cu.2.2; clear T4 T6 T8)
          | (go_at_call_of 23 w6; refine (heardB hite HX6.out T4.out).mono ?_; rintro e w8 ⟨rfl, HX8, T4, T6⟩; have HX8 := F1.hid HX8; have T4 := tbHid T4; have T6 := tbHid T6; clear HX6 p0 p1 p2 p3 p4 p5; have p0 := fun o => (HX8.out.one o).cu.1; have p1 := fun o => (HX8.out.one o).cu.2.1; have p2 := fun o => (HX8.out.one o).cu.2.2)
          | (go_at_call_of 23 w4; refine (heardA hite hn HX.out).mono ?_; rintro e w6 ⟨rfl, HX6, T4⟩; have HX6 := F1.hid HX6; have T4 := tbHid T4; clear HX p0 p1 p2 p3 p4 p5 y0 y1 y2 y3 y4 y5; have p0 := fun o => (HX6.out.one o).cu.1; have p1 := fun o => (HX6.out.one o).cu.2.1; have p2 := fun o => (HX6.out.one o).cu.2.2; have p3 := fun o => (HX6.out.one o).cr.1; have p4 := fun o => (HX6.out.one o).cr.2.1; have p5 := fun o => (HX6.out.one o).cr.2.2)
          | (go_at_call_of 24 r; refine (equal_same r _).mono ?_; rintro e w' ⟨rfl, rfl⟩)
          | (go_at_call_of 24 u; refine (equal_same u _).mono ?_; rintro e w' ⟨rfl, rfl⟩))
        go_ret
        exact ⟨rfl, (((((((HX9.out.one _).one _).one _).one _).one _).one _).one _).bel⟩
      · have hdc : decide (u < r) = false := decide_eq_false hc
        have hite : (if u < r then r else u) = u := if_neg hc
        clear hc
        go_wp2_with (first
          | (at_builtin; refine wpList_append_lies _ rfl (.tmp 50) (.tmp 53) 59 rfl E 61 i0 (.agg ev0) 5 56 Try.underlying59 HI.out HZ0.out HZ1.out HZ2.out rfl (by decide) u10 k xs rfl HO.out ⟨wr.heap.size, 0, none⟩ 1 1 (evc r) rfl rfl HN.out (evc_one _) (by decide) (by unfold maxLen; omega) (by omega) HBB.out _ rfl ?_; intro g cap w4 hown4 hgrow4 hat4 hlt4; have HX := F1.hid (F1.start hE1.out HFR.out HO.out hown4 hgrow4); clear hown4 hgrow4 hat4 hlt4 HO HN HBB HFR y0 y1 y2 y3 y4 y5; obtain ⟨y0, y1, y2⟩ := HX.out.cu; obtain ⟨y3, y4, y5⟩ := HX.out.cr; have p0 := fun o1 => cell1 y0 o1; have p1 := fun o1 => cell1 y1 o1; have p2 := fun o1 => cell1 y2 o1; have p3 := fun o1 => cell1 y3 o1; have p4 := fun o1 => cell1 y4 o1; have p5 := fun o1 => cell1 y5 o1)
          | (go_at_call_of 23 w8; refine (heardC HX8.out T4.out T6.out).mono ?_; rintro e w9 ⟨rfl, HX9, T4, T6, T8⟩; have HX9 := F1.hid HX9; clear HX8 p0 p1 p2; have t0 := fun o => (T4.one o).c0; have t1 := fun o => (T4.one o).c1; have t2 := fun o => (T4.one o).c2; have t3 := fun o => (T6.one o).c0; have t4 := fun o => (T6.one o).c1; have t5 := fun o => (T6.one o).c2; have t6 := fun o1 o2 o3 => (((T6.one o1).one o2).one o3).c0; have t7 := fun o1 o2 o3 => (((T6.one o1).one o2).one o3).c1; have t8 := fun o1 o2 o3 => (((T6.one o1).one o2).one o3).c2; have t9 := fun o1 o2 o3 => (((T8.one o1).one o2).one o3).c0; have t10 := fun o1 o2 o3 => (((T8.one o1).one o2).one o3).c1; have t11 := fun o1 o2 o3 => (((T8.one o1).one o2).one o3).c2; have t12 := fun o1 o2 o3 o4 => (((((TB.new w9 u).one o1).one o2).one o3).one o4).c0; have t13 := fun o1 o2 o3 o4 => (((((TB.new w9 u).one o1).one o2).one o3).one o4).c1; have t14 := fun o1 o2 o3 o4 => (((((TB.new w9 u).one o1).one o2).one o3).one o4).c2; have t15 := fun o1 o2 o3 o4 o5 => (((((HX9.out.one o1).one o2).one o3).one o4).one o5).cu.1; have t16 := fun o1 o2 o3 o4 o5 => (((((HX9.out.one o1).one o2).one o3).one o4).one o5).cu.2.1; have t17 := fun o1 o2 o3 o4 o5 => (((((HX9.out.one o1).one o2).one o3).one o4).one o5).cu.2.2; clear T4 T6 T8)
          | (go_at_call_of 23 w6; refine (heardB hite HX6.out T4.out).mono ?_; rintro e w8 ⟨rfl, HX8, T4, T6⟩; have HX8 := F1.hid HX8; have T4 := tbHid T4; have T6 := tbHid T6; clear HX6 p0 p1 p2 p3 p4 p5; have p0 := fun o => (HX8.out.one o).cu.1; have p1 := fun o => (HX8.out.one o).cu.2.1; have p2 := fun o => (HX8.out.one o).cu.2.2)
          | (go_at_call_of 23 w4; refine (heardA hite hn HX.out).mono ?_; rintro e w6 ⟨rfl, HX6, T4⟩; have HX6 := F1.hid HX6; have T4 := tbHid T4; clear HX p0 p1 p2 p3 p4 p5 y0 y1 y2 y3 y4 y5; have p0 := fun o => (HX6.out.one o).cu.1; have p1 := fun o => (HX6.out.one o).cu.2.1; have p2 := fun o => (HX6.out.one o).cu.2.2; have p3 := fun o => (HX6.out.one o).cr.1; have p4 := fun o => (HX6.out.one o).cr.2.1; have p5 := fun o => (HX6.out.one o).cr.2.2)
          | (go_at_call_of 24 u; refine (equal_same u _).mono ?_; rintro e w' ⟨rfl, rfl⟩))
        go_ret
        exact ⟨rfl, (((((((HX9.out.one _).one _).one _).one _).one _).one _).one _).bel⟩
end Go.Proofs.Qxb6613106a.Tm
