import Derived.Test.Qxb6613106aState2
import Derived.Deep.RegionHeld3
import Derived.Deep.QuietTactic
import Derived.BigQuiet
namespace Go.Proofs.Qxb6613106a.Push
open Go.RowKit Qfr

set_option maxRecDepth 10000 in
set_option maxHeartbeats 1000000 in
theorem script_in (a1 a2 : Option Addr) (n c1 m c2 : Nat) (R X R' X' : Nat → Int) (w : World) (hn : n ≤ 65536) (hm : m ≤ 65536) (hnm : n + m ≤ 65536) (hq : QRow w a1 n R X) (hp : QRow w a2 m R' X') :
    Calls Try.prog 4 #[.slice a1 n c1, .slice a2 m c2] w fun e w' => e = .returned (.bool true) ∧ Below w.heap.size w w' := by
  have HQ : Hid (QRow w a1 n R X) := hq
  have HP : Hid (QRow w a2 m R' X') := hp
  clear hq hp
  have hmk1 := run_make_row' (P := Try.prog) 41 43 (.pointer none) 8 Try.underlying41 info43 rfl .i64 .i64 n (by omega) (by omega)
  have hmk2 := run_make_row' (P := Try.prog) 41 43 (.pointer none) 8 Try.underlying41 info43 rfl .i64 .i64 m (by omega) (by omega)
  obtain ⟨i0, hi, hz0, hz1, hz2⟩ := info_parts info43
  have HI : Hid (Try.prog.info? 43 = some i0) := hi
  have HZ0 : Hid (i0.zero = some (.pointer none)) := hz0
  have HZ1 : Hid (i0.size = 1) := hz1
  have HZ2 : Hid (i0.bytes = 8) := hz2
  clear hi hz0 hz1 hz2
  go_enter Try.func4, Try.ntmps4
  go_wp2_with (go_at_call 15; refine (bytes15_ok a1 a2 n c1 m c2 (by omega) w).mono ?_; rintro e w' ⟨rfl, rfl⟩)
  go_loopw [7] (fun vi wr => ∃ v bs, bs.length ≤ n ∧ vi = .int .i64 (bs.length : Int) ∧ Hid (Q1 w wr n v bs R X)) (fun vi _ => n - (intOf vi).toNat)
  case atStart => exact ⟨_, [], by simp, rfl, Q1.start w n R X⟩
  case round =>
    obtain ⟨v, bs, hbn, rfl, hQ1⟩ := hrel
    by_cases hk : bs.length < n
    · obtain ⟨b, off, ha, hb, cR, cX⟩ := HQ.out bs.length hk
      have hidx := idx39 ha n c1 bs.length hk
      have cR' := (hQ1.out.bel.cell (p := ⟨b, off + bs.length * 2, none⟩) hb).trans cR
      have cX' := (hQ1.out.bel.cell (p := ⟨b, off + bs.length * 2 + 1, none⟩) hb).trans cX
      have hbw : b < wr.heap.size := Nat.lt_of_lt_of_le hb hQ1.out.bel.size
      have hlo := hQ1.out.lo
      have cq : ∀ o, (wr.alloc o).cell? ⟨w.heap.size, 0, none⟩ = some v := fun o => by
        rw [World.cell?_alloc_lt _ _ _ (by show w.heap.size < _; omega)]
        exact cell_of_one hQ1.out.qc
      have co : ∀ o, (wr.alloc o).cell? ⟨w.heap.size + 1, bs.length, none⟩ = some (.pointer none) := fun o => by
        rw [World.cell?_alloc_lt _ _ _ (by show w.heap.size + 1 < _; omega), hQ1.out.olds.cell hk, List.getElem?_eq_none (Nat.le_refl bs.length)]; rfl
      have fo : ∀ o, (wr.alloc o).frozen? ⟨w.heap.size + 1, bs.length, none⟩ = false := fun o => by
        rw [World.frozen?_alloc_old _ _ _ (by show w.heap.size + 1 ≠ _; omega)]; exact hQ1.out.olds.frozen _
      have HA : Hid (At1 w wr (((wr.alloc (.cells (Qfr.item (R bs.length) (X bs.length)) 101)).setCell ⟨w.heap.size + 1, bs.length, none⟩ (ptr wr.heap.size)).alloc (.cells #[ptr wr.heap.size] 43)).drew n v bs R X) := (hQ1.out.at rfl rfl _ _).drew
      have HN := news1 (W := (wr.alloc (.cells (Qfr.item (R bs.length) (X bs.length)) 101)).setCell ⟨w.heap.size + 1, bs.length, none⟩ (ptr wr.heap.size)) (N := wr.heap.size + 1) (by simp [World.setCell]) wr.heap.size
      have HN' := (show Hid _ from HN)
      clear HN
      clear cR cX ha
      go_wp2
      go_region_held3 (fun w' => w'.cell? ⟨b, off + bs.length * 2, none⟩ = some (.int .i64 (R bs.length)) ∧ w'.cell? ⟨b, off + bs.length * 2 + 1, none⟩ = some (.int .i64 (X bs.length))) (go_keep)
        ((go_at_call 16; refine (newItem _ _ _).mono ?_; rintro e w' ⟨rfl, rfl⟩))
      clear cR' cX' hidx
      go_wp2_with (at_builtin; refine wpList_append_lies _ rfl (.tmp 59) (.tmp 61) 42 rfl (w.heap.size + 2) 43 i0 (.pointer none) 1 8 Try.underlying42 HI.out HZ0.out HZ1.out HZ2.out rfl (by decide) v bs.length (bs.map ptr) rfl HA.out.own ⟨wr.heap.size + 1, 0, none⟩ 1 1 [ptr wr.heap.size] rfl rfl HN'.out (ptrs_one [wr.heap.size]) (by decide) (by unfold maxLen; omega) (by omega) HA.out.base _ rfl ?_; intro g cap w4 hown4 hgrow4 hat4 hlt4; have HX := hQ1.out.next HA.out hown4 hgrow4; clear hown4 hgrow4 hat4 hlt4; have c4 := HX.out.1; have f4 := HX.out.2.1)
      go_roundw
      case rel => exact ⟨_, bs ++ [wr.heap.size], by simp; omega, by simp, HX.out.2.2⟩
      case measure => simp [intOf]; omega
    · obtain rfl : n = bs.length := by omega
      have HS : Hid (Q2 w (wr.alloc (.cells (madeCells #[.pointer none] m) 43)) wr.heap.size bs.length m v bs [] R X R') := hQ1.out.second m R'
      clear hQ1 hk hbn
      go_wp2
      revert HS
      generalize wr.heap.size = N
      generalize (wr.alloc (.cells (madeCells #[.pointer none] m) 43)) = W1
      intro HS
      go_loopw [11] (fun vj wr => ∃ v cs, cs.length ≤ m ∧ vj = .int .i64 (cs.length : Int) ∧ Hid (Q2 w wr N bs.length m v bs cs R X R')) (fun vj _ => m - (intOf vj).toNat)
      case atStart => exact ⟨_, [], by simp, rfl, HS⟩
      case round =>
        obtain ⟨v2, cs, hcm, rfl, hQ2⟩ := hrel
        clear HS
        by_cases hk : cs.length < m
        · obtain ⟨b, off, ha, hb, cR, cX⟩ := HP.out cs.length hk
          have hidx := idx39 ha m c2 cs.length hk
          have cR' := (hQ2.out.bel.cell (p := ⟨b, off + cs.length * 2, none⟩) hb).trans cR
          have cX' := (hQ2.out.bel.cell (p := ⟨b, off + cs.length * 2 + 1, none⟩) hb).trans cX
          have hbw : b < wr.heap.size := Nat.lt_of_lt_of_le hb hQ2.out.bel.size
          have hNlt := hQ2.out.news.lt
          have co : ∀ o, (wr.alloc o).cell? ⟨N, cs.length, none⟩ = some (.pointer none) := fun o => by
            rw [World.cell?_alloc_lt _ _ _ (by show N < _; omega), hQ2.out.news.cell hk, List.getElem?_eq_none (Nat.le_refl cs.length)]; rfl
          have fo : ∀ o, (wr.alloc o).frozen? ⟨N, cs.length, none⟩ = false := fun o => by
            rw [World.frozen?_alloc_old _ _ _ (by show N ≠ _; omega)]; exact hQ2.out.news.frozen _
          have HA : Hid (At2 w wr ((wr.setCell ⟨N, cs.length, none⟩ (ptr wr.heap.size)).alloc (.cells (Qfr.item (R' cs.length) (X' cs.length)) 101)).drew N m v2 bs cs (R' cs.length) (X' cs.length)) := hQ2.out.at _ _
          clear cR cX ha
          go_wp2
          go_region_held3 (fun w' => w'.cell? ⟨b, off + cs.length * 2, none⟩ = some (.int .i64 (R' cs.length)) ∧ w'.cell? ⟨b, off + cs.length * 2 + 1, none⟩ = some (.int .i64 (X' cs.length))) (go_keep)
            ((go_at_call 16; refine (newItem _ _ _).mono ?_; rintro e w' ⟨rfl, rfl⟩))
          clear cR' cX' hidx
          go_wp2_with fail
          refine (push_any w.heap.size wr.heap.size v2 (bs.length + cs.length) _ (w.heap.size + 2) _ _ _ HA.out.qc HA.out.pc HA.out.own HA.out.base (by omega)).mono ?_
          rintro e w5 ⟨rfl, g, cap, hP⟩
          have HN2 : Hid (Q2 w w5 N bs.length m (.slice (some ⟨g, 0, none⟩) (bs.length + cs.length + 1) cap) bs (cs ++ [wr.heap.size]) R X R') := hQ2.out.next HA.out hP
          have cq := cell_of_one hP.qc
          have cg : w5.cell? ⟨g, bs.length + cs.length, none⟩ = some (ptr wr.heap.size) := own_cell (ps := bs ++ cs ++ [wr.heap.size]) (by simpa using hP.own) (by simp)
          have cx : w5.cell? ⟨wr.heap.size, 5, none⟩ = some (.int .i64 ((bs.length : Int) + (cs.length : Int))) := by simpa using item_index hP.pc
          have hix := idx42i g (bs.length + cs.length + 1) cap bs.length cs.length (by omega)
          have hpp := neq43 wr.heap.size
          clear hP co fo
          go_wp2_with (go_at_call 18; refine (itemIndex _ _ _ (by assumption)).mono ?_; rintro e w' ⟨rfl, rfl⟩)
          go_roundw
          case rel => exact ⟨_, cs ++ [wr.heap.size], by simp; omega, by simp, HN2⟩
          case measure => simp [intOf]; omega
        · obtain rfl : m = cs.length := by omega
          obtain ⟨av, cpv, hv2⟩ := own_form hQ2.out.own
          subst hv2
          have cq := cell_of_one hQ2.out.qc
          have HS3 : Hid (Q2 w wr N bs.length cs.length (.slice av (bs.length + cs.length) cpv) bs cs R X R') := hQ2
          clear hQ2 hk hcm
          go_wp2
          clear cq
          go_loopw [13] (fun vi wr => ∃ k : Nat, k ≤ bs.length ∧ vi = .int .i64 (k : Int) ∧ Hid (Q2 w wr N bs.length cs.length (.slice av (bs.length + cs.length) cpv) bs cs R X R')) (fun vi _ => bs.length - (intOf vi).toNat)
          case atStart => exact ⟨0, by omega, rfl, HS3⟩
          case round =>
            obtain ⟨k, hkn, rfl, hQ3⟩ := hrel
            clear HS3
            by_cases hk : k < bs.length
            · obtain ⟨b, off, ha, hb, cR, cX⟩ := HQ.out k hk
              have hidx := idx39 ha bs.length c1 k hk
              have cR' := (hQ3.out.bel.cell (p := ⟨b, off + k * 2, none⟩) hb).trans cR
              have cX' := (hQ3.out.bel.cell (p := ⟨b, off + k * 2 + 1, none⟩) hb).trans cX
              obtain ⟨g, hg⟩ := own_addr hQ3.out.own (by omega)
              have hix := idx42 hg (bs.length + cs.length) cpv k (by omega)
              obtain ⟨p, hp⟩ : ∃ p, bs[k]? = some p := ⟨_, List.getElem?_eq_getElem hk⟩
              have cg : wr.cell? ⟨g, k, none⟩ = some (ptr p) := own_cell (ps := bs ++ cs) (by have := hQ3.out.own; rw [hg] at this; exact this) (by rw [List.getElem?_append_left hk]; exact hp)
              have co : wr.cell? ⟨w.heap.size + 1, k, none⟩ = some (ptr p) := by rw [hQ3.out.olds.cell hk, hp]; rfl
              have cr := item_reads (hQ3.out.its k p hp)
              have cx := item_index (hQ3.out.its k p hp)
              have cq := cell_of_one hQ3.out.qc
              have hpp := neq43 p
              clear cR cX ha hg hp
              go_wp2
              go_quiet (fail)
              go_wp2
              go_quiet ((first | (go_at_call 18; refine (itemIndex p (X k) _ (by exact cx)).mono ?_; rintro e w'' ⟨rfl, rfl⟩; exact ⟨rfl, _, rfl⟩) | (go_at_call 19; refine (itemReads p (R k) _ (by exact cr)).mono ?_; rintro e w'' ⟨rfl, rfl⟩; exact ⟨rfl, _, rfl⟩)))
              go_wp2
              go_roundw
              case rel => exact ⟨k + 1, by omega, by go_num, hQ3.out.drewN _⟩
              case measure => simp [intOf]; omega
            · clear HQ
              go_wp2
              clear hk hkn
              go_loopw [14] (fun vi wr => ∃ k : Nat, k ≤ cs.length ∧ vi = .int .i64 (k : Int) ∧ Hid (Q2 w wr N bs.length cs.length (.slice av (bs.length + cs.length) cpv) bs cs R X R')) (fun vi _ => cs.length - (intOf vi).toNat)
              case atStart => exact ⟨0, by omega, rfl, hQ3⟩
              case round =>
                obtain ⟨k, hkn, rfl, hQ4⟩ := hrel
                clear hQ3
                by_cases hk : k < cs.length
                · obtain ⟨b, off, ha, hb, cR, cX⟩ := HP.out k hk
                  have hidx := idx39 ha cs.length c2 k hk
                  have cR' := (hQ4.out.bel.cell (p := ⟨b, off + k * 2, none⟩) hb).trans cR
                  obtain ⟨g, hg⟩ := own_addr hQ4.out.own (by omega)
                  have hix := idx42j hg (bs.length + cs.length) cpv bs.length k (by omega)
                  obtain ⟨p, hp⟩ : ∃ p, cs[k]? = some p := ⟨_, List.getElem?_eq_getElem hk⟩
                  have cg : wr.cell? ⟨g, bs.length + k, none⟩ = some (ptr p) := own_cell (ps := bs ++ cs) (by have := hQ4.out.own; rw [hg] at this; exact this) (by rw [List.getElem?_append_right (by omega)]; simpa using hp)
                  have co : wr.cell? ⟨N, k, none⟩ = some (ptr p) := by rw [hQ4.out.news.cell hk, hp]; rfl
                  have cr := item_reads (hQ4.out.its' k p hp)
                  have cx : wr.cell? ⟨p, 5, none⟩ = some (.int .i64 ((bs.length : Int) + (k : Int))) := by simpa using item_index (hQ4.out.its' k p hp)
                  have cq := cell_of_one hQ4.out.qc
                  have hpp := neq43 p
                  clear cR cX ha hg hp
                  go_wp2
                  go_quiet (fail)
                  go_wp2
                  go_quiet ((first | (go_at_call 18; refine (itemIndex p ((bs.length : Int) + (k : Int)) _ (by exact cx)).mono ?_; rintro e w'' ⟨rfl, rfl⟩; exact ⟨rfl, _, rfl⟩) | (go_at_call 19; refine (itemReads p (R' k) _ (by exact cr)).mono ?_; rintro e w'' ⟨rfl, rfl⟩; exact ⟨rfl, _, rfl⟩)))
                  go_wp2
                  go_roundw
                  case rel => exact ⟨k + 1, by omega, by go_num, hQ4.out.drewN _⟩
                  case measure => simp [intOf]; omega
                · go_wp2
                  go_ret
                  exact ⟨rfl, hQ4.out.bel⟩
end Go.Proofs.Qxb6613106a.Push
