import Derived.Test.Qxb6613028aDoorDec
namespace Go.Proofs.Qxb6613028aDoor.Parts
open Go.RowKit Plain Go.Lib

theorem dec_any (s : ByteArray) (ev : Value) (w : World) (hE : w.cell? ⟨0, 0, none⟩ = some ev) :
    Calls Tryd.prog 8 #[.iface 9 (.string s)] w fun e w' => ∃ g : Nat → Int, e = .returned (.tuple #[.agg (cl g).toArray, .bool (sig s)]) ∧ (sig s = true → ∀ j, j < 20 → g j = Plain.byteOf s j) ∧ Below w.heap.size w w' := by
  by_cases h : s.size = 40
  · exact dec_40 s h ev w hE
  · refine (dec_short s h w).mono ?_
    rintro e w' ⟨rfl, hb⟩
    have hs := sig_no_size h
    exact ⟨fun _ => 0, by rw [hs], (fun e => by rw [hs] at e; cases e), hb⟩

theorem res5 (tmps : Array Value) (w : World) (b : Nat) (g : Nat → Int) (ok : Bool) (h2 : tmps.getD 2 undef = .pointer (some ⟨b, 0, none⟩)) (h3 : tmps.getD 3 undef = .bool ok) (hr : w.rangeAt b 0 (cl g)) :
    (results Tryd.f5 tmps).run Tryd.prog w = .ok (.tuple #[.agg (cl g).toArray, .bool ok]) w := by
  rw [results_cell_tmp (show Tryd.f5.results = #[.cell 2 24, .tmp 3] from rfl), h2, h3]
  have := run_loadVar_mid (P := Tryd.prog) w b 0 24 (cl g) _ hr Tryd.underlying24 rfl (by rw [cl_len]; exact info24)
  simp [asAddr, this, Result.andThen]

theorem dec5 (s : ByteArray) (ev : Value) (w : World) (hE : w.cell? ⟨0, 0, none⟩ = some ev) :
    Calls Tryd.prog 5 #[.string s] w fun e w' => ∃ g : Nat → Int, e = .returned (.tuple #[.agg (cl g).toArray, .bool (sig s)]) ∧ (sig s = true → ∀ j, j < 20 → g j = Plain.byteOf s j) ∧ Below w.heap.size w w' := by
  have hgl : 0 < w.heap.size := World.block_lt_of_cell? w ⟨0, 0, none⟩ hE
  have HE : Hid ((w.alloc (.cells Z20 24)).cell? ⟨0, 0, none⟩ = some ev) := (((Below.refl w.heap.size w).alloc (Nat.le_refl _) (.cells Z20 24)).cell (p := ⟨0, 0, none⟩) hgl).trans hE
  clear hE
  go_enter Tryd.func5, Tryd.ntmps5
  go_wp2_with fail
  refine (dec_any s ev _ HE.out).mono ?_
  rintro e w1 ⟨g, rfl, hg, hb⟩
  have HB : Hid (Below (w.alloc (.cells Z20 24)).heap.size (w.alloc (.cells Z20 24)) w1) := hb
  have HG : Hid (sig s = true → ∀ j, j < 20 → g j = Plain.byteOf s j) := hg
  have HT : Hid (w1.there w.heap.size 0 20) := row_there ((row_new w).of_block (hb.block w.heap.size (by simp)))
  clear hb hg
  go_wp2_with (refine wpList_store_mid rfl 24 (.tmp 2) (.tmp 7) rfl w.heap.size 0 (cl g).toArray rfl rfl (by simpa [cl_len] using HT.out) (by simpa [cl_len] using info24) (all_oneCell_toArray (cl_one _)) ?_)
  refine bodyPost_ret (v := .tuple #[.agg (cl g).toArray, .bool (sig s)]) (res5 _ _ w.heap.size g (sig s) rfl rfl ?_) rfl ⟨g, rfl, HG.out, ?_⟩
  · exact World.rangeAt_setCells_same _ _ _ _ (by rw [cl_len]; exact HT.out)
  · exact below_cells (Nat.le_refl _) _ _ _ (((Below.refl _ _).alloc (Nat.le_refl _) _).trans (HB.out.mono (by simp)))
end Go.Proofs.Qxb6613028aDoor.Parts
