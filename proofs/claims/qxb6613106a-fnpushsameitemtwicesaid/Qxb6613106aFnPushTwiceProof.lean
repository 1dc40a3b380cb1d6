import Derived.Test.Qxb6613106aTwice
import Derived.Test.Qxb6613106aOpen
import Derived.ChangeOld
import Derived.Below
namespace Go.Proofs.Qxb6613106a.fnPushTwice
open Go.ChangeShapes Go.WideShapes Go.ChangeAt Go.RowKit Push

theorem own : ownKnob Try.prog.godebug = none := by kernel_rfl
theorem laidOut : laidOutB Try.prog = true := by kernel_rfl

set_option maxRecDepth 10000 in
set_option maxHeartbeats 1000000 in
theorem walk (a1 : Option Addr) (n c1 : Nat) (p : Int) (R X : Nat → Int) (w : World) (hn : n ≤ maxLen) (hq : QRow w a1 n R X) :
    Calls Try.prog 5 #[.slice a1 n c1, .int .i64 p] w fun e w' => e = .returned (.bool true) ∧ Below w.heap.size w w' := by
  unfold maxLen at hn
  by_cases hbig : 1048576 < n
  · clear hq
    go_enter Try.func5, Try.ntmps5
    go_wp2_with (go_at_call 20; refine (bytes20_no a1 n c1 p hbig w).mono ?_; rintro e w' ⟨rfl, rfl⟩)
    go_ret
    exact ⟨rfl, Below.refl _ _⟩
  have hsm : n ≤ 1048576 := by omega
  clear hbig
  by_cases h1 : 65536 < n
  · clear hq hn
    go_enter Try.func5, Try.ntmps5
    go_wp2_with (go_at_call 20; refine (bytes20_ok a1 n c1 p hsm w).mono ?_; rintro e w' ⟨rfl, rfl⟩)
    go_ret
    exact ⟨rfl, Below.refl _ _⟩
  by_cases h2 : p < 0
  · clear hq hn
    go_enter Try.func5, Try.ntmps5
    go_wp2_with (go_at_call 20; refine (bytes20_ok a1 n c1 p hsm w).mono ?_; rintro e w' ⟨rfl, rfl⟩)
    go_ret
    exact ⟨rfl, Below.refl _ _⟩
  by_cases h3 : (n : Int) ≤ p
  · clear hq hn
    go_enter Try.func5, Try.ntmps5
    go_wp2_with (go_at_call 20; refine (bytes20_ok a1 n c1 p hsm w).mono ?_; rintro e w' ⟨rfl, rfl⟩)
    go_ret
    exact ⟨rfl, Below.refl _ _⟩
  obtain ⟨k, rfl⟩ := Int.eq_ofNat_of_zero_le (show 0 ≤ p by omega)
  exact twice_in a1 n c1 k R X w (by omega) (by omega) hq

set_option maxRecDepth 100000 in
theorem lifted (os : Os) (started : os.Started) (H : Type) (enc : TypeId × Value → H) :
    ReturnsInHanded {} Try.checked os 5 .any (Rows.fnPushSameItemTwiceSpec.pre6 enc Try.prog Try.f5 Rows.fnPushSameItemTwiceRow.domain false) (Rows.fnPushSameItemTwiceSpec.post enc Try.prog Try.f5 false true false false) := by
  refine returnsInHanded_of_change (C := Try.checked) own started (by kernel_rfl) Try.func5
    (ChangeSpec.witness6 (enc := enc) (C := Try.checked) false ⟨#[], #[.slice none 0 0, .int .i64 0], []⟩ 8 (by kernel_rfl) (by kernel_rfl) (by kernel_rfl) (by kernel_rfl)) ?_
  intro W base args ds gs before hval0 hW hcnd _
  have hval : ∀ (j : Nat) t v, Try.f5.params[j]? = some t → args[j]? = some v → Value.okWide Try.prog W .any base t v := hval0
  have hW' := hW
  obtain ⟨p, q, hA0, hV, rfl, hfz, hnd⟩ := hW
  have hA : DataW.TrodAll enc Try.prog W 0 (fun _ => true) true Try.f5.params.toList args.toList ds p := hA0
  rw [Try.params5] at hA hval
  obtain ⟨v0, vs0, d0, ds0, p0, q0, hargs, rfl, rfl, h0, r0⟩ := trodAll_cons hA
  obtain ⟨v1, vs1, d1, ds1, p1, q1, rfl, rfl, rfl, h1, r1⟩ := trodAll_cons r0
  obtain ⟨rfl, rfl, rfl⟩ := trodAll_nil r1
  obtain rfl : args = #[v0, v1] := by cases args; simp_all
  obtain ⟨rfl, rfl⟩ := trodVars_none hV
  obtain ⟨a0, len0, cap0, rfl⟩ := okWide_slice Try.underlying39 (hval 0 39 v0 rfl rfl)
  obtain ⟨a1, rfl, rfl, rfl, w1⟩ := open_int Try.underlying3 (hval 1 3 v1 rfl rfl) h1
  have k0 := h0
  have lt0 : ∀ x ∈ p0, x.block < W.heap.size := by obtain ⟨m, hm⟩ := k0; exact DataW.trod_lt m _ _ _ hm
  obtain ⟨m0, R, X, hq⟩ : len0 ≤ maxLen ∧ ∃ R X, QRow W a0 len0 R X := by
    obtain ⟨fuel, hf⟩ := h0
    exact qrow_of (by simpa [Value.cells] using hf)
  clear hA0 hval0
  refine (walk a0 len0 cap0 a1 R X W m0 hq).mono fun e W' ⟨he, bel⟩ => ?_
  subst he
  exact ⟨_, rfl, _, _, _, [], _, [], hW', trodAll_mk1 (shut_bool Try.underlying4 _), (trodAll_cons_mk (Below.trod laidOut (by kernel_rfl) (of_decide_eq_true (by kernel_rfl)) k0 bel lt0) (trodAll_cons_mk (shut_int Try.underlying3 w1) trodAll_mk0)), rfl, bel.frame _, fun h => by cases h⟩

theorem over : Rows.fnPushSameItemTwiceRow.holds Try.pinned (OpenSpec.ofChange Rows.fnPushSameItemTwiceSpec) :=
  OpenClaim.holds_of_wide 5 Try.f5 rfl rfl rfl rfl rfl rfl rfl ⟨rfl, rfl, rfl, rfl, rfl⟩ rfl rfl rfl rfl rfl (by kernel_rfl) Try.func5 (by kernel_rfl)
    (of_decide_eq_true (by kernel_rfl)) (by unfold Func.isWrapper; first | (rw [if_pos (by decide +kernel)]; kernel_rfl) | (rw [if_neg (by decide +kernel)]; exact ⟨rfl, rfl⟩))
    (fun os started H enc _ => lifted os started H enc)

theorem proved : Rows.FnPushSameItemTwiceSaid := over
#print axioms proved
end Go.Proofs.Qxb6613106a.fnPushTwice
