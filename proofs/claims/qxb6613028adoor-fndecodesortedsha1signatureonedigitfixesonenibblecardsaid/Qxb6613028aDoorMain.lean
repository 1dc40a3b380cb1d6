import Derived.Test.Qxb6613028aDoorDec5
import Derived.Deep.QuietTactic
import Derived.BigQuiet
import Derived.Deep.WholeRow
namespace Go.Proofs.Qxb6613028aDoor.Parts
open Go.RowKit Plain Go.Lib

theorem conv_bytes (s : ByteArray) (w : World) : ∃ (cap : Nat) (C : Array Value), (∀ j (h : j < s.size), C[j]? = some (.int .u8 ((s[j]'h).toNat : Int))) ∧
    (convert 9 23 (.string s)).run Tryd.prog w = .ok (.slice (some ⟨w.heap.size, 0, none⟩) s.size cap) (w.drew.alloc (.cells C 5 (C.size, C.size + 1))) :=
  ⟨_, _, fun j h => bytesRow_at s _ j h, run_bytes_of_string (P := Tryd.prog) w 9 23 5 s Tryd.underlying9 Tryd.underlying23 Tryd.underlying5⟩

/-- the text with its byte at place i replaced -/
def tset (s : ByteArray) (i : Nat) (c : UInt8) : ByteArray := ⟨(s.data.toList.set i c).toArray⟩
theorem tset_size (s : ByteArray) (i : Nat) (c : UInt8) : (tset s i c).size = s.size := by
  show (tset s i c).data.size = s.data.size
  simp [tset]
theorem tset_num (s : ByteArray) (i : Nat) (c : UInt8) (hi : i < s.size) (j : Nat) : num (tset s i c) j = if j = i then (c.toNat : Int) else num s j := by
  have hi' : i < s.data.toList.length := by simpa using hi
  unfold num tset
  simp only [List.getElem?_set]
  by_cases e : j = i
  · subst e
    rw [if_pos rfl, if_pos rfl, if_pos hi']
    rfl
  · rw [if_neg (fun h => e h.symm), if_neg e]

/-- 'string(b)' behind the one store -/
theorem conv_back (s : ByteArray) (i : Nat) (c : UInt8) (hi : i < s.size) (cap : Nat) (C : Array Value) (hC : ∀ j (h : j < s.size), C[j]? = some (.int .u8 ((s[j]'h).toNat : Int))) (w : World) :
    (convert 23 9 (.slice (some ⟨w.heap.size, 0, none⟩) s.size cap)).run Tryd.prog (((w.alloc (.cells C 5 (C.size, C.size + 1))).setCell ⟨w.heap.size, i, none⟩ (.int .u8 (c.toNat : Int))).drew) =
      .ok (.string (tset s i c)) (((w.alloc (.cells C 5 (C.size, C.size + 1))).setCell ⟨w.heap.size, i, none⟩ (.int .u8 (c.toNat : Int))).drew) := by
  have hl : (s.data.toList.set i c).length = s.size := by
    simp
  have h := run_convert_bytes_back (P := Tryd.prog) (((w.alloc (.cells C 5 (C.size, C.size + 1))).setCell ⟨w.heap.size, i, none⟩ (.int .u8 (c.toNat : Int))).drew) 23 9 5 ⟨w.heap.size, 0, none⟩ cap (s.data.toList.set i c) Tryd.underlying23 Tryd.underlying5 Tryd.underlying9 (by
    intro j hj
    have hjs : j < s.size := by rw [← hl]; exact hj
    have hadd : (⟨w.heap.size, 0, none⟩ : Addr).add j = ⟨w.heap.size, j, none⟩ := by unfold Addr.add; split <;> simp_all
    rw [hadd]
    show ((w.alloc (.cells C 5 (C.size, C.size + 1))).setCell ⟨w.heap.size, i, none⟩ (.int .u8 (c.toNat : Int))).cell? ⟨w.heap.size, j, none⟩ = _
    by_cases e : i = j
    · subst e
      have h0 : (w.alloc (.cells C 5 (C.size, C.size + 1))).cell? ⟨w.heap.size, i, none⟩ = some (.int .u8 (s[i].toNat : Int)) := by
        rw [World.cell?_alloc_mark]; exact hC i hi
      rw [World.cell?_setCell_same _ _ _ h0]
      simp
    · rw [World.cell?_setCell_other _ _ _ _ (fun h => e (congrArg Addr.off h)), World.cell?_alloc_mark, hC j hjs]
      simp [e]
      rfl)
  rw [hl] at h
  exact h

theorem dec5' (s : ByteArray) (ok : Bool) (hok : sig s = ok) (ev : Value) (w : World) (hE : w.cell? ⟨0, 0, none⟩ = some ev) :
    Calls Tryd.prog 5 #[.string s] w fun e w' => ∃ g : Nat → Int, e = .returned (.tuple #[.agg (cl g).toArray, .bool ok]) ∧ (ok = true → ∀ j, j < 20 → g j = Plain.byteOf s j) ∧ Below w.heap.size w w' := by
  subst hok
  exact dec5 s ev w hE
theorem isSig' (s : ByteArray) (ok : Bool) (hok : sig s = ok) (w : World) :
    Calls Tryd.prog 6 #[.string s] w fun e w' => e = .returned (.bool ok) ∧ w' = w := by
  subst hok
  exact isSig_any s w

theorem cl_oneA (g : Nat → Int) : (cl g).toArray.all (·.oneCell') = true := all_oneCell_toArray (cl_one g)
theorem cl_info (g : Nat → Int) : (Tryd.prog.info? 24).map (·.size) = some (cl g).toArray.size := by
  rw [info24]; simp [cl_len]
theorem cl_size (g : Nat → Int) : Z20.size = (cl g).toArray.size := by simp [cl_len]

end Go.Proofs.Qxb6613028aDoor.Parts
