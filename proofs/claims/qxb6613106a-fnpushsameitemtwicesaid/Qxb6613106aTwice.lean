import Derived.Test.Qxb6613106aState3
import Derived.Deep.RegionHeld3
import Derived.Deep.QuietTactic
import Derived.BigQuiet
namespace Go.Proofs.Qxb6613106a.Push
open Go.RowKit Qfr

set_option maxRecDepth 10000 in
set_option maxHeartbeats 1000000 in
theorem twice_in (a1 : Option Addr) (n c1 k0 : Nat) (R X : Nat → Int) (w : World) (hn : n ≤ 65536) (hk0 : k0 < n) (hq : QRow w a1 n R X) :
    Calls Try.prog 5 #[.slice a1 n c1, .int .i64 (k0 : Int)] w fun e w' => e = .returned (.bool true) ∧ Below w.heap.size w w' := by
  have HQ : Hid (QRow w a1 n R X) := hq
  clear hq
  have hmk1 := run_make_row' (P := Try.prog) 41 43 (.pointer none) 8 Try.underlying41 info43 rfl .i64 .i64 n (by omega) (by omega)
  obtain ⟨i0, hi, hz0, hz1, hz2⟩ := info_parts info43
  have HI : Hid (Try.prog.info? 43 = some i0) := hi
  have HZ0 : Hid (i0.zero = some (.pointer none)) := hz0
  have HZ1 : Hid (i0.size = 1) := hz1
  have HZ2 : Hid (i0.bytes = 8) := hz2
  clear hi hz0 hz1 hz2
  have hd1 : decide ((k0 : Int) < 0) = false := decide_eq_false (by omega)
  have hd2 : decide (n ≤ k0) = false := decide_eq_false (by omega)
  go_enter Try.func5, Try.ntmps5
  go_wp2_with (go_at_call 20; refine (bytes20_ok a1 n c1 _ (by omega) w).mono ?_; rintro e w' ⟨rfl, rfl⟩)
  go_loopw [7] (fun vi wr => ∃ bs : List Nat, bs.length ≤ n ∧ vi = .int .i64 (bs.length : Int) ∧ Hid (∃ v, Q1 w wr n v bs R X ∧ ∀ (i b : Nat), bs[i]? = some b → w.heap.size ≤ b)) (fun vi _ => n - (intOf vi).toNat)
  case atStart => exact ⟨[], by simp, rfl, _, Q1.start w n R X, fun i b h => by simp at h⟩
  case round =>
    obtain ⟨bs, hbn, rfl, hQL⟩ := hrel
    obtain ⟨v, hQ1', hlow'⟩ := hQL.out
    have hQ1 : Hid (Q1 w wr n v bs R X) := hQ1'
    have hlow : Hid (∀ (i b : Nat), bs[i]? = some b → w.heap.size ≤ b) := hlow'
    clear hQL hQ1' hlow'
    by_cases hk : bs.length < n
    · obtain ⟨b, off, ha, hb, cR, cX⟩ := HQ.out bs.length hk
      have hidx := idx39 ha n c1 bs.length hk
      have cR' := (hQ1.out.bel.cell (p := ⟨b, off + bs.length * 2, none⟩) hb).trans cR
      have cX' := (hQ1.out.bel.cell (p := ⟨b, off + bs.length * 2 + 1, none⟩) hb).trans cX
      have hbw : b < wr.heap.size := Nat.lt_of_lt_of_le hb hQ1.out.bel.size
      have hlo := hQ1.out.lo
      have cq : ∀ o, (wr.alloc o).cell? ⟨w.heap.size, 0, none⟩ = some v := fun o => by
        rw [World.cell?_alloc_lt _ _ _ (by show w.heap.size < _; omega)]
        exact cell_of_one hQ1.out.qc
      have co : ∀ o, (wr.alloc o).cell? ⟨w.heap.size + 1, bs.length, none⟩ = some (.pointer none) := fun o => by
        rw [World.cell?_alloc_lt _ _ _ (by show w.heap.size + 1 < _; omega), hQ1.out.olds.cell hk, List.getElem?_eq_none (Nat.le_refl bs.length)]; rfl
      have fo : ∀ o, (wr.alloc o).frozen? ⟨w.heap.size + 1, bs.length, none⟩ = false := fun o => by
        rw [World.frozen?_alloc_old _ _ _ (by show w.heap.size + 1 ≠ _; omega)]; exact hQ1.out.olds.frozen _
      have HA : Hid (At1 w wr (((wr.alloc (.cells (Qfr.item (R bs.length) (X bs.length)) 101)).setCell ⟨w.heap.size + 1, bs.length, none⟩ (ptr wr.heap.size)).alloc (.cells #[ptr wr.heap.size] 43)).drew n v bs R X) := (hQ1.out.at rfl rfl _ _).drew
      have HN := news1 (W := (wr.alloc (.cells (Qfr.item (R bs.length) (X bs.length)) 101)).setCell ⟨w.heap.size + 1, bs.length, none⟩ (ptr wr.heap.size)) (N := wr.heap.size + 1) (by simp [World.setCell]) wr.heap.size
      have HN' := (show Hid _ from HN)
      clear HN
      clear cR cX ha
      go_wp2
      go_region_held3 (fun w' => w'.cell? ⟨b, off + bs.length * 2, none⟩ = some (.int .i64 (R bs.length)) ∧ w'.cell? ⟨b, off + bs.length * 2 + 1, none⟩ = some (.int .i64 (X bs.length))) (go_keep)
        ((go_at_call 16; refine (newItem _ _ _).mono ?_; rintro e w' ⟨rfl, rfl⟩))
      clear cR' cX' hidx
      go_wp2_with (at_builtin; refine wpList_append_lies _ rfl (.tmp 53) (.tmp 55) 42 rfl (w.heap.size + 2) 43 i0 (.pointer none) 1 8 Try.underlying42 HI.out HZ0.out HZ1.out HZ2.out rfl (by decide) v bs.length (bs.map ptr) rfl HA.out.own ⟨wr.heap.size + 1, 0, none⟩ 1 1 [ptr wr.heap.size] rfl rfl HN'.out (ptrs_one [wr.heap.size]) (by decide) (by unfold maxLen; omega) (by omega) HA.out.base _ rfl ?_; intro g cap w4 hown4 hgrow4 hat4 hlt4; have HX := hQ1.out.next HA.out hown4 hgrow4; clear hown4 hgrow4 hat4 hlt4; have c4 := HX.out.1; have f4 := HX.out.2.1)
      go_roundw
      case rel => exact ⟨bs ++ [wr.heap.size], by simp; omega, by simp, _, HX.out.2.2, low_next hlow.out hQ1.out.bel.size⟩
      case measure => simp [intOf]; omega
    · obtain rfl : n = bs.length := by omega
      obtain ⟨b, hb⟩ : ∃ b, bs[k0]? = some b := ⟨_, List.getElem?_eq_getElem hk0⟩
      have h0 := hQ1.out.pushes hlow.out
      have co : wr.cell? ⟨w.heap.size + 1, k0, none⟩ = some (ptr b) := by rw [h0.olds.cell hk0, hb]; rfl
      have H0 : Hid (QP w wr bs.length v bs [] R X) := h0
      have HBK : Hid (bs[k0]? = some b) := hb
      clear h0 hb hQ1 hlow hk hbn hmk1
      go_wp2_with fail
      refine (push_any w.heap.size b v (bs.length + 0) _ (w.heap.size + 2) _ _ _ H0.out.qc (H0.out.its k0 b HBK.out) H0.out.own H0.out.lo (by omega)).mono ?_
      rintro e w5 ⟨rfl, g1, cp1, hP1⟩
      have h1 := H0.out.push HBK.out hP1
      have cx1 : w5.cell? ⟨b, 5, none⟩ = some (.int .i64 (bs.length : Int)) := by simpa using item_index hP1.pc
      have H1 : Hid (QP w w5 bs.length (.slice (some ⟨g1, 0, none⟩) (bs.length + 1) cp1) bs [b] R (fun i => if i = k0 then (bs.length : Int) else X i)) := by show QP _ _ _ _ _ _ _ _; simpa using h1
      clear h1 hP1 co H0
      go_wp2_with (go_at_call 18; refine (itemIndex b (bs.length : Int) w5 cx1).mono ?_; rintro e w6 ⟨rfl, hw6⟩; subst hw6)
      refine (push_any w.heap.size b _ (bs.length + 1) _ (w.heap.size + 2) _ _ _ H1.out.qc (H1.out.its k0 b HBK.out) H1.out.own H1.out.lo (by omega)).mono ?_
      rintro e w7 ⟨rfl, g2, cp2, hP2⟩
      have h2 := H1.out.push HBK.out hP2
      have cx2 : w7.cell? ⟨b, 5, none⟩ = some (.int .i64 ((bs.length : Int) + 1)) := by simpa using item_index hP2.pc
      have H2 : Hid (QP w w7 bs.length (.slice (some ⟨g2, 0, none⟩) (bs.length + 2) cp2) bs [b, b] R (fun i => if i = k0 then ((bs.length : Int) + 1) else X i)) := by
        show QP _ _ _ _ _ _ _ _
        have e : (fun i => if i = k0 then ((bs.length + [b].length : Nat) : Int) else (if i = k0 then (bs.length : Int) else X i)) = (fun i => if i = k0 then ((bs.length : Int) + 1) else X i) := by
          funext i
          by_cases h : i = k0 <;> simp [h]
        rw [e] at h2
        simpa using h2
      have cq := cell_of_one H2.out.qc
      have cg1 : w7.cell? ⟨g2, bs.length, none⟩ = some (ptr b) := own_cell (ps := bs ++ [b, b]) (by simpa using H2.out.own) (by simp)
      have cg2 : w7.cell? ⟨g2, bs.length + 1, none⟩ = some (ptr b) := own_cell (ps := bs ++ [b, b]) (by simpa using H2.out.own) (by simp)
      have hix1 := idx42 (a := some ⟨g2, 0, none⟩) rfl (bs.length + 2) cp2 bs.length (by omega)
      have hix2 := idx42s g2 (bs.length + 2) cp2 bs.length (by omega)
      have hpp := neq43 b
      clear h2 hP2 cx1 H1
      go_wp2_with (go_at_call 18; refine (itemIndex b ((bs.length : Int) + 1) w7 cx2).mono ?_; rintro e w8 ⟨rfl, hw8⟩; subst hw8)
      clear cq cg1 cg2 hix1 hix2 hpp cx2
      go_loopw [13] (fun vi wr => ∃ k : Nat, k ≤ bs.length ∧ vi = .int .i64 (k : Int) ∧ Hid (QP w wr bs.length (.slice (some ⟨g2, 0, none⟩) (bs.length + 2) cp2) bs [b, b] R (fun i => if i = k0 then ((bs.length : Int) + 1) else X i))) (fun vi _ => bs.length - (intOf vi).toNat)
      case atStart => exact ⟨0, by omega, rfl, H2⟩
      case round =>
        obtain ⟨k, hkn, rfl, hQ3⟩ := hrel
        clear H2
        by_cases hk : k < bs.length
        · obtain ⟨qb, off, ha, hb, cR, cX⟩ := HQ.out k hk
          have hidx := idx39 ha bs.length c1 k hk
          have cR' := (hQ3.out.bel.cell (p := ⟨qb, off + k * 2, none⟩) hb).trans cR
          have cX' := (hQ3.out.bel.cell (p := ⟨qb, off + k * 2 + 1, none⟩) hb).trans cX
          have hix := idx42 (a := some ⟨g2, 0, none⟩) rfl (bs.length + 2) cp2 k (by omega)
          obtain ⟨p, hp⟩ : ∃ p, bs[k]? = some p := ⟨_, List.getElem?_eq_getElem hk⟩
          have cg : wr.cell? ⟨g2, k, none⟩ = some (ptr p) := own_cell (ps := bs ++ [b, b]) (by simpa using hQ3.out.own) (by rw [List.getElem?_append_left hk]; exact hp)
          have co : wr.cell? ⟨w.heap.size + 1, k, none⟩ = some (ptr p) := by rw [hQ3.out.olds.cell hk, hp]; rfl
          have cr := item_reads (hQ3.out.its k p hp)
          have cq := cell_of_one hQ3.out.qc
          have hpp := neq43 p
          by_cases hkk : k = k0
          · have hg : ((k : Int) != (k0 : Int)) = false := by simp; omega
            clear cR cX ha hp hkk
            go_wp2
            go_quiet ((go_at_call 19; refine (itemReads p (R k) _ (by exact cr)).mono ?_; rintro e w'' ⟨rfl, rfl⟩; exact ⟨rfl, _, rfl⟩))
            go_wp2
            go_quiet (fail)
            go_wp2
            go_roundw
            case rel => exact ⟨k + 1, by omega, by go_num, hQ3.out.drewN _⟩
            case measure => simp [intOf]; omega
          · have hg : ((k : Int) != (k0 : Int)) = true := by simp; omega
            have cx : wr.cell? ⟨p, 5, none⟩ = some (.int .i64 (X k)) := by
              have := item_index (hQ3.out.its k p hp)
              rw [if_neg hkk] at this
              exact this
            clear cR cX ha hp hkk
            go_wp2
            go_quiet ((go_at_call 19; refine (itemReads p (R k) _ (by exact cr)).mono ?_; rintro e w'' ⟨rfl, rfl⟩; exact ⟨rfl, _, rfl⟩))
            go_wp2
            go_quiet ((go_at_call 18; refine (itemIndex p (X k) _ (by exact cx)).mono ?_; rintro e w'' ⟨rfl, rfl⟩; exact ⟨rfl, _, rfl⟩))
            go_wp2
            go_roundw
            case rel => exact ⟨k + 1, by omega, by go_num, hQ3.out.drewN _⟩
            case measure => simp [intOf]; omega
        · go_wp2
          go_ret
          exact ⟨rfl, hQ3.out.bel⟩
end Go.Proofs.Qxb6613106a.Push
