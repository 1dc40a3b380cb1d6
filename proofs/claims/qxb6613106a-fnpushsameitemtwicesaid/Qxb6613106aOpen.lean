import Derived.Test.Qxb6613106aState
import Derived.ProofKit
import Derived.OpenShut
import Derived.Deep.SlicePairs
namespace Go.Proofs.Qxb6613106a.Push
open Go.ChangeShapes Go.WideShapes Go.ChangeAt Go.RowKit Go.Deep

theorem cells46 : Try.prog.cellsOf 46 = 2 := by kernel_rfl
theorem cells3 : Try.prog.cellsOf 3 = 1 := by kernel_rfl

/-- a slice of pairs that came in, opened -/
theorem qrow_of {H : Type} {enc : TypeId × Value → H} {W : World} {a : Option Addr} {len cap : Nat} {x : DataW H × List MemPlace} {fuel : Nat}
    (h : DataW.trod enc Try.prog W 0 (fun _ => true) true fuel 39 [.slice a len cap] = some x) : len ≤ maxLen ∧ ∃ R X, QRow W a len R X := by
  rcases open_slice_pairs Try.underlying39 Try.underlying46 cells46 rfl rfl cells3 cells3 h with ⟨hcs, _⟩ | ⟨ad, l, c, m, n, V0, V1, D0, D1, P0, P1, hcs, _, hl, hm, hmm, _, hx⟩
  · simp at hcs
    obtain ⟨rfl, rfl, rfl⟩ := hcs
    exact ⟨Nat.zero_le _, fun _ => 0, fun _ => 0, fun i hi => absurd hi (by omega)⟩
  · simp at hcs
    obtain ⟨rfl, rfl, rfl⟩ := hcs
    refine ⟨Nat.le_trans hl hm, fun i => intOf (V0 i), fun i => intOf (V1 i), fun i hi => ?_⟩
    have him : i < m := by rw [hmm]; simp; omega
    obtain ⟨h0, h1, t0, t1⟩ := hx i him
    obtain ⟨z0, e0, _, _⟩ := DataW.trod_int Try.underlying3 t0
    obtain ⟨z1, e1, _, _⟩ := DataW.trod_int Try.underlying3 t1
    simp at e0 e1
    rw [e0] at h0
    rw [e1] at h1
    obtain ⟨b, off, spot⟩ := ad
    have hspot : spot = none := by
      have := World.cell?_spot (hx 0 (by omega)).1
      simpa [Addr.add] using this
    subst hspot
    rw [add_plain] at h0 h1
    refine ⟨b, off, rfl, World.block_lt_of_cell? W _ h0, ?_, ?_⟩
    · rw [h0]; simp [intOf, e0]
    · rw [← Nat.add_assoc] at h1
      rw [h1]; simp [intOf, e1]
end Go.Proofs.Qxb6613106a.Push
