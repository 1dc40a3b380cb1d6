import Derived.Test.Qxb6613028aDoorMain
namespace Go.Proofs.Qxb6613028aDoor.Parts
open Go.RowKit Plain Go.Lib

/-- what the law's two arrays hold, and that nothing old has turned -/
structure FinW (w wr : World) (B1 B2 : Nat) (g1 g2 : Nat → Int) : Prop where
  c1 : ∀ j, j < 20 → wr.cell? ⟨B1, j, none⟩ = some (.int .u8 (g1 j))
  c2 : ∀ j, j < 20 → wr.cell? ⟨B2, j, none⟩ = some (.int .u8 (g2 j))
  bel : Below w.heap.size w wr

theorem FinW.drewN {w wr : World} {B1 B2 : Nat} {g1 g2 : Nat → Int} (h : FinW w wr B1 B2 g1 g2) (n : Nat) : FinW w (wr.drewN n) B1 B2 g1 g2 :=
  ⟨h.c1, h.c2, ⟨h.bel.os, h.bel.tape, h.bel.output, h.bel.size, h.bel.block⟩⟩

theorem cell_cl (w : World) (g : Nat → Int) (j : Nat) (hj : j < 20) : (w.alloc (.cells (cl g).toArray 24)).cell? ⟨w.heap.size, j, none⟩ = some (.int .u8 (g j)) := by
  rw [World.cell?_alloc_mark]
  simpa using cl_at g j hj

theorem byte_same (s : ByteArray) (i : Nat) (c : UInt8) (hi : i < s.size) (j : Nat) (h : ¬ j = i / 2) : Plain.byteOf (tset s i c) j = Plain.byteOf s j := by
  unfold Plain.byteOf
  rw [tset_num s i c hi, tset_num s i c hi, if_neg (by omega), if_neg (by omega)]

theorem nib_even (s : ByteArray) (i : Nat) (c : UInt8) (hi : i < s.size) (k : Nat) (hk : i = 2 * k) (hk20 : k < 20) (h1 : ∀ j, j < 40 → 0 ≤ hx (num s j)) (h2 : ∀ j, j < 40 → 0 ≤ hx (num (tset s i c) j)) :
    Plain.byteOf (tset s i c) k / 16 = hx (c.toNat : Int) ∧ Plain.byteOf (tset s i c) k % 16 = hx (num s (2 * k + 1)) ∧ Plain.byteOf s k % 16 = hx (num s (2 * k + 1)) ∧ hx (c.toNat : Int) % 256 = hx (c.toNat : Int) ∧
      (0 ≤ Plain.byteOf (tset s i c) k ∧ Plain.byteOf (tset s i c) k ≤ 255) ∧ (0 ≤ Plain.byteOf s k ∧ Plain.byteOf s k ≤ 255) ∧ 0 ≤ hx (c.toNat : Int) := by
  have e0 := h2 i (by omega)
  rw [tset_num s i c hi, if_pos rfl] at e0
  have e1 := h1 (2 * k) (by omega)
  have e2 := h1 (2 * k + 1) (by omega)
  have b0 := hx_hi (c.toNat : Int)
  have b1 := hx_hi (num s (2 * k))
  have b2 := hx_hi (num s (2 * k + 1))
  unfold Plain.byteOf
  rw [tset_num s i c hi, tset_num s i c hi, if_pos (by omega), if_neg (by omega)]
  omega

theorem nib_odd (s : ByteArray) (i : Nat) (c : UInt8) (hi : i < s.size) (k : Nat) (hk : i = 2 * k + 1) (hk20 : k < 20) (h1 : ∀ j, j < 40 → 0 ≤ hx (num s j)) (h2 : ∀ j, j < 40 → 0 ≤ hx (num (tset s i c) j)) :
    Plain.byteOf (tset s i c) k % 16 = hx (c.toNat : Int) ∧ Plain.byteOf (tset s i c) k / 16 = hx (num s (2 * k)) ∧ Plain.byteOf s k / 16 = hx (num s (2 * k)) ∧ hx (c.toNat : Int) % 256 = hx (c.toNat : Int) ∧
      (0 ≤ Plain.byteOf (tset s i c) k ∧ Plain.byteOf (tset s i c) k ≤ 255) ∧ (0 ≤ Plain.byteOf s k ∧ Plain.byteOf s k ≤ 255) ∧ 0 ≤ hx (c.toNat : Int) := by
  have e0 := h2 i (by omega)
  rw [tset_num s i c hi, if_pos rfl] at e0
  have e1 := h1 (2 * k) (by omega)
  have e2 := h1 (2 * k + 1) (by omega)
  have b0 := hx_hi (c.toNat : Int)
  have b1 := hx_hi (num s (2 * k))
  have b2 := hx_hi (num s (2 * k + 1))
  unfold Plain.byteOf
  rw [tset_num s i c hi, tset_num s i c hi, if_neg (by omega), if_pos (by omega)]
  omega

theorem fin_mk {w w2 w3 : World} {g1 g2 : Nat → Int} (h3 : Below w.heap.size w (w2.alloc (.cells (cl g1).toArray 24))) (hb : Below (w2.alloc (.cells (cl g1).toArray 24)).heap.size (w2.alloc (.cells (cl g1).toArray 24)) w3) :
    FinW w (w3.alloc (.cells (cl g2).toArray 24)) w2.heap.size w3.heap.size g1 g2 := by
  have hs : w2.heap.size < w3.heap.size := by have := hb.size; simp at this; omega
  refine ⟨fun j hj => ?_, fun j hj => cell_cl w3 g2 j hj, (h3.trans (hb.mono h3.size)).alloc (Nat.le_trans h3.size hb.size) _⟩
  rw [World.cell?_alloc_lt _ _ _ hs]
  exact (hb.cell (p := ⟨w2.heap.size, j, none⟩) (by simp)).trans (cell_cl w2 g1 j hj)

set_option maxHeartbeats 800000 in
theorem main_in (s : ByteArray) (i : Nat) (c : UInt8) (hs : s.size ≤ 1048576) (hi : i < s.size) (ok1 ok2 : Bool) (hs1 : sig s = ok1) (hs2 : sig (tset s i c) = ok2) (ev : Value) (w : World) (hE : w.cell? ⟨0, 0, none⟩ = some ev) :
    Calls Tryd.prog 3 #[.string s, .int .i64 (i : Int), .int .u8 (c.toNat : Int)] w fun e w' => e = .returned (.bool true) ∧ Below w.heap.size w w' := by
  obtain ⟨cap, C, hC, hcv⟩ := conv_bytes s w
  have hCi : i < C.size := by
    have := hC i hi
    exact (Array.getElem?_eq_some_iff.1 this).1
  have hf0 : (w.alloc (.cells C 5 (C.size, C.size + 1))).frozen? ⟨w.heap.size, i, none⟩ = false := by
    rw [World.frozen?_alloc_mark]; simp; omega
  have hc0 : (w.alloc (.cells C 5 (C.size, C.size + 1))).cell? ⟨w.heap.size, i, none⟩ = some (.int .u8 (s[i].toNat : Int)) := by
    rw [World.cell?_alloc_mark]; exact hC i hi
  have hgl : 0 < w.heap.size := World.block_lt_of_cell? w ⟨0, 0, none⟩ hE
  have HE : Hid (w.cell? ⟨0, 0, none⟩ = some ev) := hE
  have hcb := conv_back s i c hi cap C hC w
  have HB1 : Hid (Below w.heap.size w ((w.alloc (.cells C 5 (C.size, C.size + 1))).setCell ⟨w.heap.size, i, none⟩ (.int .u8 (c.toNat : Int))).drew) := (((Below.refl _ w).alloc (Nat.le_refl _) _).setCell (Nat.le_refl _) _).drew
  have H1 : Hid (sig s = ok1) := hs1
  have H2 : Hid (sig (tset s i c) = ok2) := hs2
  clear hE hC hs1 hs2
  go_enter Tryd.func3, Tryd.ntmps3
  go_wp2_with (first
    | (go_at_call 4; refine (bytes_ok s _ _ hs w).mono ?_; rintro e w' ⟨rfl, rfl⟩))
  revert HB1
  generalize ((w.alloc (.cells C 5 (C.size, C.size + 1))).setCell ⟨w.heap.size, i, none⟩ (.int .u8 (c.toNat : Int))).drew = W1
  intro HB1
  clear hcb hc0 hf0 hcv
  refine (dec5' s ok1 H1.out ev _ ((HB1.out.cell (p := ⟨0, 0, none⟩) hgl).trans HE.out)).mono ?_
  rintro e w2 ⟨g1, rfl, hg1, hb2⟩
  have HB2 : Hid (Below w.heap.size w w2) := HB1.out.trans (hb2.mono HB1.out.size)
  have HG1 : Hid (ok1 = true → ∀ j, j < 20 → g1 j = Plain.byteOf s j) := hg1
  clear hg1 hb2 HB1
  go_wp2_with (refine wpList_store_row rfl 24 (.tmp 9) (.tmp 43) rfl w2.heap.size (cl g1).toArray rfl rfl 24 Z20 (heap_alloc_last _ _) (cl_info _) (cl_size _) (cl_oneA _) ?_; rw [World.setRow_alloc_new])
  have HB3 : Hid (Below w.heap.size w (w2.alloc (.cells (cl g1).toArray 24))) := HB2.out.alloc HB2.out.size _
  refine (dec5' (tset s i c) ok2 H2.out ev _ ((HB3.out.cell (p := ⟨0, 0, none⟩) hgl).trans HE.out)).mono ?_
  rintro e w3 ⟨g2, rfl, hg2, hb3⟩
  have HF : Hid (FinW w (w3.alloc (.cells (cl g2).toArray 24)) w2.heap.size w3.heap.size g1 g2) := fin_mk HB3.out hb3
  have HG2 : Hid (ok2 = true → ∀ j, j < 20 → g2 j = Plain.byteOf (tset s i c) j) := hg2
  clear hg2 hb3 HB3 HB2 HE hCi
  cases ok1 with
  | false =>
    go_wp2_with (first
      | (refine wpList_store_row rfl 24 (.tmp 11) (.tmp 48) rfl w3.heap.size (cl g2).toArray rfl rfl 24 Z20 (heap_alloc_last _ _) (cl_info _) (cl_size _) (cl_oneA _) ?_; rw [World.setRow_alloc_new])
      | (go_at_call_of 6 (tset s i c); refine (isSig' (tset s i c) ok2 H2.out _).mono ?_; rintro e w' ⟨rfl, rfl⟩)
      | (go_at_call_of 6 s; refine (isSig' s false H1.out _).mono ?_; rintro e w' ⟨rfl, rfl⟩))
    go_ret
    exact ⟨rfl, HF.out.bel⟩
  | true =>
    cases ok2 with
    | false =>
      go_wp2_with (first
        | (refine wpList_store_row rfl 24 (.tmp 11) (.tmp 48) rfl w3.heap.size (cl g2).toArray rfl rfl 24 Z20 (heap_alloc_last _ _) (cl_info _) (cl_size _) (cl_oneA _) ?_; rw [World.setRow_alloc_new])
        | (go_at_call_of 6 (tset s i c); refine (isSig' (tset s i c) false H2.out _).mono ?_; rintro e w' ⟨rfl, rfl⟩)
        | (go_at_call_of 6 s; refine (isSig' s true H1.out _).mono ?_; rintro e w' ⟨rfl, rfl⟩))
      go_ret
      exact ⟨rfl, HF.out.bel⟩
    | true =>
      go_wp2_with (first
        | (refine wpList_store_row rfl 24 (.tmp 11) (.tmp 48) rfl w3.heap.size (cl g2).toArray rfl rfl 24 Z20 (heap_alloc_last _ _) (cl_info _) (cl_size _) (cl_oneA _) ?_; rw [World.setRow_alloc_new])
        | (go_at_call_of 6 (tset s i c); refine (isSig' (tset s i c) true H2.out _).mono ?_; rintro e w' ⟨rfl, rfl⟩)
        | (go_at_call_of 6 s; refine (isSig' s true H1.out _).mono ?_; rintro e w' ⟨rfl, rfl⟩))
      go_loopw [14] (fun vj wr => ∃ j : Nat, j ≤ 20 ∧ vj = .int .i64 j ∧ Hid (FinW w wr w2.heap.size w3.heap.size g1 g2)) (fun vj _ => 20 - (RowKit.intOf vj).toNat)
      case atStart => exact ⟨0, by omega, rfl, HF⟩
      case round =>
        obtain ⟨j, hj, rfl, hfin⟩ := hrel
        clear HF
        have h40 := (sig_true H1.out).1
        by_cases hlt : j < 20
        · have hj0 : (0 : Int) ≤ (j : Int) := by omega
          have hj1 : (j : Int) < 20 := by omega
          have c1 := hfin.out.c1 j hlt
          by_cases hk : j = i / 2
          · have hd : ((j : Int) != (i : Int) / 2) = false := by simp; omega
            clear hk h40
            go_wp2
            go_quiet (fail)
            go_wp2
            go_roundw
            case rel => exact ⟨j + 1, by omega, by go_num, hfin.out.drewN _⟩
            case measure => simp [RowKit.intOf]; omega
          · have hd : ((j : Int) != (i : Int) / 2) = true := by simp; omega
            have c2 : wr.cell? ⟨w3.heap.size, j, none⟩ = some (.int .u8 (g1 j)) := by
              rw [hfin.out.c2 j hlt, HG2.out trivial j hlt, HG1.out trivial j hlt, byte_same s i c hi j hk]
            clear hk h40
            go_wp2
            go_quiet (fail)
            go_wp2
            go_roundw
            case rel => exact ⟨j + 1, by omega, by go_num, hfin.out.drewN _⟩
            case measure => simp [RowKit.intOf]; omega
        · obtain ⟨k, hk⟩ : ∃ k : Nat, (i : Int) / 2 = (k : Int) := ⟨i / 2, by omega⟩
          have hk20 : k < 20 := by omega
          have hk1 : (k : Int) < 20 := by omega
          have hk0 : (0 : Int) ≤ (k : Int) := by omega
          have c1 := hfin.out.c1 k hk20
          have c2 := hfin.out.c2 k hk20
          rw [HG1.out trivial k hk20] at c1
          rw [HG2.out trivial k hk20] at c2
          have hsg := (sig_true H1.out).2
          have hst := (sig_true H2.out).2
          have HFIN : Hid (FinW w wr w2.heap.size w3.heap.size g1 g2) := hfin
          clear h40 hfin HG1 HG2
          by_cases hpar : i % 2 = 0
          · obtain ⟨a1, a2, a3, a4, a5, a6, a7⟩ := nib_even s i c hi k (by omega) (by omega) hsg hst
            have hd : ((i : Int) % 2 == 0) = true := by simp; omega
            revert c1 c2 a1 a2 a3 a4 a5 a6 a7
            generalize Plain.byteOf s k = X1
            generalize Plain.byteOf (tset s i c) k = X2
            generalize hx (num s (2 * k + 1)) = b
            intro c1 c2 a1 a2 a3 a4 a5 a6 a7
            clear hsg hst hpar H1 H2
            go_wp2_with (go_at_call 7; refine (hexVal_any _ _).mono ?_; rintro e w' ⟨rfl, rfl⟩)
            go_quiet (fail)
            go_wp2
            go_ret
            exact ⟨rfl, (HFIN.out.drewN _).bel⟩
          · obtain ⟨a1, a2, a3, a4, a5, a6, a7⟩ := nib_odd s i c hi k (by omega) (by omega) hsg hst
            have hd : ((i : Int) % 2 == 0) = false := by simp; omega
            revert c1 c2 a1 a2 a3 a4 a5 a6 a7
            generalize Plain.byteOf s k = X1
            generalize Plain.byteOf (tset s i c) k = X2
            generalize hx (num s (2 * k)) = b
            intro c1 c2 a1 a2 a3 a4 a5 a6 a7
            clear hsg hst hpar H1 H2
            go_wp2_with (go_at_call 7; refine (hexVal_any _ _).mono ?_; rintro e w' ⟨rfl, rfl⟩)
            go_quiet (fail)
            go_wp2
            go_ret
            exact ⟨rfl, (HFIN.out.drewN _).bel⟩

set_option maxHeartbeats 400000 in
theorem main_all (s : ByteArray) (z cz : Int) (h0 : 0 ≤ cz) (h1 : cz ≤ 255) (ev : Value) (w : World) (hE : w.cell? ⟨0, 0, none⟩ = some ev) :
    Calls Tryd.prog 3 #[.string s, .int .i64 z, .int .u8 cz] w fun e w' => e = .returned (.bool true) ∧ Below w.heap.size w w' := by
  by_cases hbig : 1048576 < s.size
  · go_enter Tryd.func3, Tryd.ntmps3
    go_wp2_with (go_at_call 4; refine (bytes_no s z cz hbig w).mono ?_; rintro e w' ⟨rfl, rfl⟩)
    go_ret
    exact ⟨rfl, Below.refl _ _⟩
  have hsm : s.size ≤ 1048576 := by omega
  clear hbig
  by_cases hneg : z < 0
  · clear hE
    go_enter Tryd.func3, Tryd.ntmps3
    go_wp2_with (go_at_call 4; refine (bytes_ok s z cz hsm w).mono ?_; rintro e w' ⟨rfl, rfl⟩)
    go_ret
    exact ⟨rfl, Below.refl _ _⟩
  by_cases hge : (s.size : Int) ≤ z
  · clear hE
    go_enter Tryd.func3, Tryd.ntmps3
    go_wp2_with (go_at_call 4; refine (bytes_ok s z cz hsm w).mono ?_; rintro e w' ⟨rfl, rfl⟩)
    go_ret
    exact ⟨rfl, Below.refl _ _⟩
  obtain ⟨i, rfl⟩ := Int.eq_ofNat_of_zero_le (show 0 ≤ z by omega)
  obtain ⟨c, rfl⟩ : ∃ c : UInt8, cz = (c.toNat : Int) := ⟨UInt8.ofNat cz.toNat, (Hx.byte_back cz h0 (by omega)).symm⟩
  exact main_in s i c hsm (by omega) _ _ rfl rfl ev w hE
end Go.Proofs.Qxb6613028aDoor.Parts
