import Derived.Test.Qxb6613152aMk
import Derived.ProofKit
import Derived.OpenShut
namespace Go.Proofs.Qxb6613152a.Wk
open Go.RowKit Qfr Go.ChangeShapes Go.WideShapes Go.ChangeAt

theorem bytes7_any (a1 a2 : Option Addr) (l1 c1 l2 c2 : Nat) (m : Int) (w : World) :
    Calls Try.prog 7 #[.slice a1 l1 c1, .int .u32 m, .slice a2 l2 c2] w fun e w' => ∃ b, e = .returned (.bool b) ∧ w = w' := by
  by_cases h1 : 1048576 < l1
  · go_enter Try.func7, Try.ntmps7
    go_wp2
    go_ret
    exact ⟨_, rfl, rfl⟩
  by_cases h2 : 1048576 < l2
  · go_enter Try.func7, Try.ntmps7
    go_wp2
    go_ret
    exact ⟨_, rfl, rfl⟩
  have e1 : IntKind.i64.wrap ((l1 : Int) + (l2 : Int)) = (l1 : Int) + l2 := by rw [IntKind.wrap_i64]; omega
  by_cases h3 : 1048576 < l1 + l2
  · go_enter Try.func7, Try.ntmps7
    go_wp2
    go_ret
    exact ⟨_, rfl, rfl⟩
  · refine (bytes7_ok a1 a2 l1 c1 l2 c2 m (by omega) (by omega) (by omega) w).mono ?_
    rintro e w' ⟨he, hw⟩
    exact ⟨_, he, hw⟩

/-- a slice of integers that came in: it is nil, or it leads to a row of 'cap' cells, each fitting its kind -/
def IsRow (k : IntKind) (w : World) (a : Option Addr) (len cap : Nat) (zs : List Int) : Prop :=
  (a = none ∧ len = 0 ∧ cap = 0 ∧ zs = []) ∨
  ∃ x, a = some x ∧ len ≤ cap ∧ cap ≤ maxLen ∧ zs.length = cap ∧ (∀ i, i < zs.length → w.cell? (x.add i) = some (.int k (zs.getD i 0))) ∧ ∀ n ∈ zs, (Lit.int k n).wf = true

theorem u32_of_wf {z : Int} (h : (Lit.int .u32 z).wf = true) : 0 ≤ z ∧ z < 4294967296 := by
  have := bounds_u32 h
  omega

theorem rw_of {w : World} {a : Option Addr} {len cap : Nat} {zs : List Int} (h : IsRow .u32 w a len cap zs) : RW w a len (fun i => zs.getD i 0) ∧ (a = none → len = 0 ∧ cap = 0) := by
  rcases h with ⟨rfl, rfl, rfl, rfl⟩ | ⟨x, rfl, hl, hm, hz, hc, hw⟩
  · exact ⟨fun i hi => absurd hi (by omega), fun _ => ⟨rfl, rfl⟩⟩
  · refine ⟨fun i hi => ?_, fun e => by cases e⟩
    obtain ⟨b, off, spot⟩ := x
    have h0 := hc 0 (by omega)
    have hspot : spot = none := by
      have := World.cell?_spot h0
      simpa [Addr.add] using this
    subst hspot
    have hi' := hc i (by omega)
    have hadd : (⟨b, off, none⟩ : Addr).add i = ⟨b, off + i, none⟩ := by unfold Addr.add; split <;> simp_all
    rw [hadd] at hi'
    have hmem : zs.getD i 0 ∈ zs := by
      have hlt : i < zs.length := by omega
      simp [List.getD_eq_getElem?_getD, hlt]
    have hb := u32_of_wf (hw _ hmem)
    exact ⟨b, off, rfl, World.block_lt_of_cell? w _ hi', hi', hb.1, hb.2⟩
end Go.Proofs.Qxb6613152a.Wk
