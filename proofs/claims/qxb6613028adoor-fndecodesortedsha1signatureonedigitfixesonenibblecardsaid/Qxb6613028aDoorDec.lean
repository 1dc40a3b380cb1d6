import Derived.Test.Qxb6613028aDoorParts
import Derived.Test.Qxb6613028aDoorShelf
import Derived.Laws.IdiomStrings
import Derived.RegionTactic
import Derived.ChangeAlike
import Derived.Deep.RegionHeld
import Derived.Deep.MidRow
import Derived.Deep.OwnRows
namespace Go.Proofs.Qxb6613028aDoor.Parts
open Go.RowKit Plain Go.Lib

theorem rowP_val (D : List UInt8) (j : Nat) : Hx.rowP (fun _ => .int .u8 0) 0 D j = .int .u8 ((D[j]?.getD 0).toNat : Int) := by
  unfold Hx.rowP
  by_cases h : j < D.length
  · rw [if_pos ⟨Nat.zero_le _, by omega⟩]; simp
  · rw [if_neg (by omega), List.getElem?_eq_none (by omega)]; rfl

/-- twenty bytes by value -/
def cl (g : Nat → Int) : List Value := (List.range 20).map fun j => .int .u8 (g j)
theorem cl_len (g : Nat → Int) : (cl g).length = 20 := by simp [cl]
theorem cl_one (g : Nat → Int) : ∀ v ∈ cl g, v.oneCell' = true := by
  intro v hv
  obtain ⟨j, _, rfl⟩ := List.mem_map.1 hv
  rfl
theorem cl_at (g : Nat → Int) (j : Nat) (h : j < 20) : (cl g)[j]? = some (.int .u8 (g j)) := by simp [cl, h]
theorem cl_some {g : Nat → Int} {j : Nat} {v : Value} (h : (cl g)[j]? = some v) : j < 20 ∧ v = .int .u8 (g j) := by
  have hj : j < 20 := by have := (List.getElem?_eq_some_iff.1 h).1; rwa [cl_len] at this
  rw [cl_at g j hj] at h
  exact ⟨hj, by simpa using h.symm⟩

theorem info24 : (Tryd.prog.info? 24).map (·.size) = some 20 := by kernel_rfl

/-- the zero array -/
abbrev Z20 : Array Value := #[.int .u8 0, .int .u8 0, .int .u8 0, .int .u8 0, .int .u8 0, .int .u8 0, .int .u8 0, .int .u8 0, .int .u8 0, .int .u8 0, .int .u8 0, .int .u8 0, .int .u8 0, .int .u8 0, .int .u8 0, .int .u8 0, .int .u8 0, .int .u8 0, .int .u8 0, .int .u8 0]
theorem Z20_eq : Z20 = (cl fun _ => 0).toArray := by rfl

theorem row_cl {w : World} {b : Nat} {t : TypeId} {g : Nat → Int} (h : w.rowIs b t 20 (fun j => .int .u8 (g j))) : w.rangeAt b 0 (cl g) := fun j v hv => by
  obtain ⟨hj, rfl⟩ := cl_some hv
  simpa using h.cell hj
theorem row_there {w : World} {b : Nat} {t : TypeId} {f : Nat → Value} (h : w.rowIs b t 20 f) : w.there b 0 20 := fun j hj => by
  refine ⟨?_, ?_⟩
  · rw [Nat.zero_add, h.cell hj]; rfl
  · rw [Nat.zero_add]; exact h.frozen j
theorem row_new (w : World) : (w.alloc (.cells Z20 24)).rowIs w.heap.size 24 20 (fun _ => .int .u8 0) := by
  have := World.rowIs_alloc w Z20 24 (fun _ => .int .u8 0) (by
    intro i hi
    rw [Z20_eq]
    have hi' : i < 20 := hi
    simpa using cl_at (fun _ => 0) i hi')
  exact this

theorem below_cells {B b : Nat} {a : World} (hb : B ≤ b) : ∀ (vs : List Value) (o : Nat) (w : World), Below B a w → Below B a (w.setCells b o vs)
  | [], _, _, h => h
  | v :: r, o, w, h => by
    rw [World.setCells]
    exact below_cells hb r (o + 1) _ (h.setCell hb v)

/-- a result of an array and a bool -/
theorem res8 (tmps : Array Value) (w : World) (b : Nat) (g : Nat → Int) (ok : Bool) (h2 : tmps.getD 2 undef = .pointer (some ⟨b, 0, none⟩)) (h3 : tmps.getD 3 undef = .bool ok) (hr : w.rangeAt b 0 (cl g)) :
    (results Tryd.f8 tmps).run Tryd.prog w = .ok (.tuple #[.agg (cl g).toArray, .bool ok]) w := by
  rw [results_cell_tmp (show Tryd.f8.results = #[.cell 2 24, .tmp 3] from rfl), h2, h3]
  have := run_loadVar_mid (P := Tryd.prog) w b 0 24 (cl g) _ hr Tryd.underlying24 rfl (by rw [cl_len]; exact info24)
  simp [asAddr, this, Result.andThen]

theorem run_assert (s : ByteArray) (w : World) : (Instr.typeAssert (.iface 9 (.string s)) 20 9 true).run Tryd.prog w = .ok (.tuple #[.string s, .bool true]) w := by kernel_rfl

set_option maxHeartbeats 400000 in
theorem dec_short (s : ByteArray) (h : s.size ≠ 40) (w : World) :
    Calls Tryd.prog 8 #[.iface 9 (.string s)] w fun e w' => e = .returned (.tuple #[.agg (cl fun _ => 0).toArray, .bool false]) ∧ Below w.heap.size w w' := by
  have hb : ((s.size : Int) != 40) = true := by simp; omega
  have hta := run_assert s
  have r0 : ((w.alloc (.cells Z20 24)).alloc (.cells Z20 24)).rowIs w.heap.size 24 20 (fun _ => .int .u8 0) := (row_new w).alloc _
  have r1 : ((w.alloc (.cells Z20 24)).alloc (.cells Z20 24)).rowIs (w.heap.size + 1) 24 20 (fun _ => .int .u8 0) := by
    have := row_new (w.alloc (.cells Z20 24))
    simpa using this
  have R1 : Hid (((w.alloc (.cells Z20 24)).alloc (.cells Z20 24)).rangeAt (w.heap.size + 1) 0 (cl fun _ => 0)) := row_cl (g := fun _ => 0) r1
  have T0 : Hid (((w.alloc (.cells Z20 24)).alloc (.cells Z20 24)).there w.heap.size 0 20) := row_there r0
  clear r0 r1
  go_enter Tryd.func8, Tryd.ntmps8
  go_wp2_with (first
    | (refine wpList_load_mid rfl 24 (.tmp 4) rfl (w.heap.size + 1) 0 rfl (cl fun _ => 0) _ R1.out Tryd.underlying24 rfl (by rw [cl_len]; exact info24) ?_)
    | (refine wpList_store_mid rfl 24 (.tmp 2) (.tmp 22) rfl w.heap.size 0 (cl fun _ => 0).toArray rfl rfl (by simpa [cl_len] using T0.out) (by simpa [cl_len] using info24) (all_oneCell_toArray (cl_one _)) ?_)
    | (go_at_call 9; refine (Tryd.hex_EncodedLen 20 (by omega) (by omega) _).mono ?_; rintro e w' ⟨rfl, rfl⟩))
  refine bodyPost_ret (v := .tuple #[.agg (cl fun _ => 0).toArray, .bool false]) (res8 _ _ w.heap.size _ false rfl rfl ?_) rfl ⟨rfl, ?_⟩
  · exact World.rangeAt_setCells_same _ _ _ _ (by rw [cl_len]; exact T0.out)
  · exact below_cells (Nat.le_refl _) _ _ _ (((Below.refl _ _).alloc (Nat.le_refl _) _).alloc (by simp) _)

theorem ret_pair {cs : Array Value} {a b : Bool} (h : Hid (a = b)) : Ending.returned (.tuple #[.agg cs, .bool a]) = .returned (.tuple #[.agg cs, .bool b]) := by rw [h.out]

theorem keepA {W : World} {b b' n : Nat} {cs : List Value} (hR : W.rangeAt b 0 cs) (hT : W.there b' 0 n) : W.drew.rangeAt b 0 cs ∧ W.drew.there b' 0 n :=
  ⟨(World.rangeAt_drew _ _ _ _).2 hR, (World.there_drew _ _ _ _).2 hT⟩
theorem keepB {W : World} {b b' n : Nat} {cs vs : List Value} (hR : W.rangeAt b 0 cs) (hT : W.there b' 0 n) (hne : b ≠ b') : (W.drew.setCells b' 0 vs).rangeAt b 0 cs ∧ (W.drew.setCells b' 0 vs).there b' 0 n :=
  ⟨World.rangeAt_setCells_apart ((World.rangeAt_drew _ _ _ _).2 hR) _ _ _ (Or.inl hne), World.there_setCells ((World.there_drew _ _ _ _).2 hT) _ _ _⟩

set_option maxHeartbeats 800000 in
theorem dec_40 (s : ByteArray) (h : s.size = 40) (ev : Value) (w : World) (hE : w.cell? ⟨0, 0, none⟩ = some ev) :
    Calls Tryd.prog 8 #[.iface 9 (.string s)] w fun e w' => ∃ g : Nat → Int, e = .returned (.tuple #[.agg (cl g).toArray, .bool (sig s)]) ∧ (sig s = true → ∀ j, j < 20 → g j = Plain.byteOf s j) ∧ Below w.heap.size w w' := by
  have hb : ((s.size : Int) != 40) = false := by simp; omega
  have hta := run_assert s
  have H40 : Hid (s.size = 40) := h
  have hgl : 0 < w.heap.size := World.block_lt_of_cell? w ⟨0, 0, none⟩ hE
  have HE : Hid (w.cell? ⟨0, 0, none⟩ = some ev) := hE
  clear h hE
  have hcv := fun w => run_bytes_of_string (P := Tryd.prog) w 9 23 5 s Tryd.underlying9 Tryd.underlying23 Tryd.underlying5
  go_enter Tryd.func8, Tryd.ntmps8
  go_wp2_with (first
    | (go_at_call 9; refine (Tryd.hex_EncodedLen 20 (by omega) (by omega) _).mono ?_; rintro e w' ⟨rfl, rfl⟩))
  generalize grownCap ((w.alloc (.cells Z20 24)).alloc (.cells Z20 24)) s.size 0 5 = cap
  have hsz : ((w.alloc (.cells Z20 24)).alloc (.cells Z20 24)).heap.size = w.heap.size + 1 + 1 := by simp
  have hB : ∀ o, Below w.heap.size w (((w.alloc (.cells Z20 24)).alloc (.cells Z20 24)).alloc o).drew := fun o => ((((Below.refl _ w).alloc (Nat.le_refl _) _).alloc (by simp) _).alloc (by simp; omega) o).drew
  have r0 : ∀ o, (((w.alloc (.cells Z20 24)).alloc (.cells Z20 24)).alloc o).drew.rowIs w.heap.size 24 20 (fun _ => .int .u8 0) := fun o => (((row_new w).alloc _).alloc o).drew
  have r1 : ∀ o, (((w.alloc (.cells Z20 24)).alloc (.cells Z20 24)).alloc o).drew.rowIs (w.heap.size + 1) 24 20 (fun _ => .int .u8 0) := fun o => by
    have := ((row_new (w.alloc (.cells Z20 24))).alloc o).drew
    simpa using this
  have hc := Tryd.hex_Decode_tag 24 (w.heap.size + 1) 0 20 20 20 (fun _ => .int .u8 0) (w.heap.size + 1 + 1) 0 s.size cap (Hx.numsOf s) (((w.alloc (.cells Z20 24)).alloc (.cells Z20 24)).alloc (.cells (bytesRow s cap) 5 ((bytesRow s cap).size, (bytesRow s cap).size + 1))).drew ev (by rw [Hx.numsOf_length]) (fun i _ => Hx.numsOf_range s i)
    (fun i hi => by
      show (((w.alloc (.cells Z20 24)).alloc (.cells Z20 24)).alloc _).cell? _ = _
      rw [← hsz, Nat.zero_add, World.cell?_alloc_mark, bytesRow_at s _ i hi, Hx.numsOf_at s i hi])
    (r1 _) (by omega) (by have := H40.out; omega) (by omega) (by have := H40.out; omega) (((hB _).cell (p := ⟨0, 0, none⟩) hgl).trans HE.out) (by omega)
  rw [Hx.bytesOf_numsOf] at hc
  refine hc.mono ?_
  rintro e w2 ⟨rfl, hrow', hgrow⟩
  have hB2 : Below w.heap.size w w2 := (hB _).grown hgrow (by simp; omega) (fun k hk => by cases hk; omega)
  have hrow0 : w2.rowIs w.heap.size 24 20 (fun _ => .int .u8 0) := (r0 _).of_block (hgrow.block w.heap.size (by simp; omega) (by simp))
  obtain ⟨g, hg⟩ : ∃ g : Nat → Int, g = fun j => (((Hx.decode s.data.toList).1[j]?.getD 0).toNat : Int) := ⟨_, rfl⟩
  have hrow1 : w2.rowIs (w.heap.size + 1) 24 20 (fun j => .int .u8 (g j)) := hrow'.congr (fun j _ => by rw [rowP_val, hg])
  have hR := row_cl hrow1
  have hT := row_there hrow0
  have HG : Hid (sig s = true → ∀ j, j < 20 → g j = Plain.byteOf s j) := fun hs j hj => by rw [hg]; exact (decode_sig hs).2 j hj
  have HB2 : Hid (Below w.heap.size w w2) := hB2
  clear hg hrow1 hrow0 hrow' hgrow hB2 hc r0 r1 hB hcv hta hb
  have hu24 := Tryd.underlying24
  have hlen := cl_len g
  have hone := cl_one g
  have hi24 : (Tryd.prog.info? 24).map (·.size) = some (cl g).length := by rw [hlen]; exact info24
  by_cases hs : sig s = true
  · rw [(decode_sig hs).1]
    simp only [Hx.errVal]
    have HS : Hid (true = sig s) := hs.symm
    clear hs
    go_wp2
    go_region_held (fun w' => w'.rangeAt (w.heap.size + 1) 0 (cl g) ∧ w'.there w.heap.size 0 20) (first | with_reducible exact keepA hR hT | with_reducible exact keepB hR hT (Nat.succ_ne_self _)) (fail)
    go_wp2
    refine bodyPost_ret (v := .tuple #[.agg (cl g).toArray, .bool true]) (res8 _ _ w.heap.size g true rfl rfl ?_) rfl ⟨g, ret_pair HS, HG.out, ?_⟩
    · exact World.rangeAt_setCells_same _ _ _ _ (by rw [cl_len]; exact (World.there_drew _ _ _ _).2 hT)
    · exact below_cells (Nat.le_refl _) _ _ _ HB2.out.drew
  · obtain ⟨c, hc⟩ := decode_nosig H40.out (by simpa using hs)
    rw [hc]
    simp only [Hx.errVal]
    have HS : Hid (false = sig s) := by show _ = _; simp [hs]
    clear hs hc
    go_wp2
    go_region_held (fun w' => w'.rangeAt (w.heap.size + 1) 0 (cl g) ∧ w'.there w.heap.size 0 20) (first | with_reducible exact keepA hR hT | with_reducible exact keepB hR hT (Nat.succ_ne_self _)) (fail)
    go_wp2
    refine bodyPost_ret (v := .tuple #[.agg (cl g).toArray, .bool false]) (res8 _ _ w.heap.size g false rfl rfl ?_) rfl ⟨g, ret_pair HS, HG.out, ?_⟩
    · exact World.rangeAt_setCells_same _ _ _ _ (by rw [cl_len]; exact (World.there_drew _ _ _ _).2 hT)
    · exact below_cells (Nat.le_refl _) _ _ _ HB2.out.drew
end Go.Proofs.Qxb6613028aDoor.Parts
