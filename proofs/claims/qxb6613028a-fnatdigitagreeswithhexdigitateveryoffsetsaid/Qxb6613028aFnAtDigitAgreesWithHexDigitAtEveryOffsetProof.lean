/-
  THE PROOF OF 'Rows.FnAtDigitAgreesWithHexDigitAtEveryOffsetSaid': the frame by the kit's proof-skeleton.mjs, the walk by the prover.
-/
import Derived.Test.Qxb6613028aRows
import Derived.WalkKit
import Derived.ProofKit
import Derived.OpenShut
import Derived.ShutString
import Derived.Test.Qxb6613028aAtd2
namespace Go.Proofs.Qxb6613028a.fnAtDigitAgreesWithHexDigitAtEveryOffset
open Go.ChangeShapes Go.WideShapes Go.ChangeAt Go.RowKit
open Go.ChangeMaps (open_string shut_string)
set_option linter.unusedVariables false      -- a walk need not use every 'w<i>' (that an integer argument fits its kind)

theorem own : ownKnob Try.prog.godebug = none := by kernel_rfl

/-! ### STEP 1: THE WALK -/
open Parts in
set_option maxHeartbeats 1000000 in
theorem walk (a0 : ByteArray) (w0 : a0.size ≤ maxLen) (w : World) :
    Calls Try.prog 3 #[.string a0] w fun e w' => e = .returned (.bool true) ∧ Grown w w' := by
  unfold maxLen at w0
  by_cases hbig : 1048576 < a0.size
  · go_enter Try.func3, Try.ntmps3
    go_wp2_with (go_at_call 4; refine (bytes_no a0 hbig w).mono ?_; rintro e w' ⟨rfl, rfl⟩)
    go_ret
    exact ⟨rfl, Grown.refl _⟩
  have hsm : a0.size ≤ 1048576 := by omega
  clear hbig w0
  go_enter Try.func3, Try.ntmps3
  go_wp2_with (go_at_call 4; refine (bytes_ok a0 hsm w).mono ?_; rintro e w' ⟨rfl, rfl⟩)
  go_loopw [3, 4, 5] (fun vc vo vi wr => ∃ k n : Nat, k ≤ a0.size + 1 ∧ n ≤ k ∧ vi = .int .i64 k ∧ vc = .int .i64 n ∧ vo = .int .i64 n ∧ Grown w wr) (fun _ _ vi _ => a0.size + 1 - (intOf vi).toNat)
  case atStart => exact ⟨0, 0, by omega, by omega, rfl, rfl, rfl, Grown.refl _⟩
  case round =>
    obtain ⟨k, n, hk, hn, rfl, rfl, rfl, hg⟩ := hrel
    by_cases hend : k = a0.size + 1
    · subst hend
      go_wp2
      go_ret
      exact ⟨rfl, hg⟩
    by_cases hlast : k = a0.size
    · subst hlast
      clear hend
      go_wp2_with (first
        | (go_at_call 5; refine (newParser a0 a0.size _).mono ?_; rintro e w' ⟨rfl, rfl⟩)
        | (go_at_call 6; refine (zzatd_end a0 _ _ (by simp [go_sem]) (by simp [go_sem])).mono ?_; rintro e w' ⟨rfl, nq, rfl⟩))
      go_roundw
      case rel => exact ⟨a0.size + 1, n, by omega, by omega, by go_num, rfl, rfl, grown_drewN (hg.alloc _ _) _⟩
      case measure => simp [intOf]
    have hlt : k < a0.size := by omega
    clear hend hlast
    have hb := a0[k].toNat_lt
    by_cases hdig : 48 ≤ a0[k].toNat ∧ a0[k].toNat ≤ 57
    · obtain ⟨d1, d2⟩ := hdig
      clear hb
      have i1 : (48 : Int) ≤ (a0[k].toNat : Int) := by omega
      have i2 : (a0[k].toNat : Int) ≤ 57 := by omega
      have i3 : decide ((a0[k].toNat : Int) - 48 < 10) = true := decide_eq_true (by omega)
      go_wp2_with (first
        | (go_at_call 5; refine (newParser a0 k _).mono ?_; rintro e w' ⟨rfl, rfl⟩)
        | (go_at_call 6; refine (zzatd_mid a0 k _ _ hlt d1 d2 (by simp [go_sem]) (by simp [go_sem])).mono ?_; rintro e w' ⟨rfl, nq, rfl⟩)
        | (go_at_call 7; refine (hex_digit _ i1 i2 _).mono ?_; rintro e w' ⟨rfl, rfl⟩)
        | (go_at_call 8; refine (dec_yes _ ⟨i1, i2⟩ _).mono ?_; rintro e w' ⟨rfl, rfl⟩))
      go_roundw
      case rel => exact ⟨k + 1, n + 1, by omega, by omega, by go_num, by go_num, by go_num, grown_drewN (hg.alloc _ _) _⟩
      case measure => simp [intOf]; omega
    by_cases hlet : (97 ≤ (a0[k].toNat : Int) ∧ (a0[k].toNat : Int) ≤ 102) ∨ (65 ≤ (a0[k].toNat : Int) ∧ (a0[k].toNat : Int) ≤ 70)
    · have HD : Hid (¬ (48 ≤ a0[k].toNat ∧ a0[k].toNat ≤ 57)) := hdig
      have HL : Hid ((97 ≤ (a0[k].toNat : Int) ∧ (a0[k].toNat : Int) ≤ 102) ∨ (65 ≤ (a0[k].toNat : Int) ∧ (a0[k].toNat : Int) ≤ 70)) := hlet
      have HI : Hid (¬ (48 ≤ (a0[k].toNat : Int) ∧ (a0[k].toNat : Int) ≤ 57)) := by show ¬ _; omega
      clear hb hdig hlet
      go_wp2_with (first
        | (go_at_call 5; refine (newParser a0 k _).mono ?_; rintro e w' ⟨rfl, rfl⟩)
        | (go_at_call 6; refine (zzatd_no a0 k _ _ hlt HD.out (by simp [go_sem]) (by simp [go_sem])).mono ?_; rintro e w' ⟨rfl, nq, rfl⟩)
        | (go_at_call 7; refine (hex_letter _ HL.out _).mono ?_; rintro e w' ⟨v, ⟨v1, v2⟩, rfl, rfl⟩)
        | (go_at_call 8; refine (dec_no _ HI.out _).mono ?_; rintro e w' ⟨rfl, rfl⟩))
      go_roundw
      case rel => exact ⟨k + 1, n, by omega, by omega, by go_num, by go_num, by go_num, grown_drewN (hg.alloc _ _) _⟩
      case measure => simp [intOf]; omega
    · have HD : Hid (¬ (48 ≤ a0[k].toNat ∧ a0[k].toNat ≤ 57)) := hdig
      have HL : Hid (¬ ((48 ≤ (a0[k].toNat : Int) ∧ (a0[k].toNat : Int) ≤ 57) ∨ (97 ≤ (a0[k].toNat : Int) ∧ (a0[k].toNat : Int) ≤ 102) ∨ (65 ≤ (a0[k].toNat : Int) ∧ (a0[k].toNat : Int) ≤ 70))) := by show ¬ _; omega
      have HI : Hid (¬ (48 ≤ (a0[k].toNat : Int) ∧ (a0[k].toNat : Int) ≤ 57)) := by show ¬ _; omega
      have i1 : (0 : Int) ≤ (a0[k].toNat : Int) := by omega
      have i2 : (a0[k].toNat : Int) ≤ 255 := by omega
      clear hb hdig hlet
      go_wp2_with (first
        | (go_at_call 5; refine (newParser a0 k _).mono ?_; rintro e w' ⟨rfl, rfl⟩)
        | (go_at_call 6; refine (zzatd_no a0 k _ _ hlt HD.out (by simp [go_sem]) (by simp [go_sem])).mono ?_; rintro e w' ⟨rfl, nq, rfl⟩)
        | (go_at_call 7; refine (hex_none _ i1 i2 HL.out _).mono ?_; rintro e w' ⟨rfl, rfl⟩)
        | (go_at_call 8; refine (dec_no _ HI.out _).mono ?_; rintro e w' ⟨rfl, rfl⟩))
      go_roundw
      case rel => exact ⟨k + 1, n, by omega, by omega, by go_num, by go_num, by go_num, grown_drewN (hg.alloc _ _) _⟩
      case measure => simp [intOf]; omega

/-! ### THE ROW's STEP: WRITTEN OUT: LEAVE IT -/
set_option maxRecDepth 100000 in
theorem lifted (os : Os) (started : os.Started) (H : Type) (enc : TypeId × Value → H) :
    ReturnsInHanded {} Try.checked os 3 .any (Rows.fnAtDigitAgreesWithHexDigitAtEveryOffsetSpec.pre6 enc Try.prog Try.f3 Rows.fnAtDigitAgreesWithHexDigitAtEveryOffsetRow.domain false) (Rows.fnAtDigitAgreesWithHexDigitAtEveryOffsetSpec.post enc Try.prog Try.f3 false true false false) := by
  refine returnsInHanded_of_change (C := Try.checked) own started (by kernel_rfl) Try.func3
    (ChangeSpec.witness6 (enc := enc) (C := Try.checked) false ⟨#[], #[.string ByteArray.empty], []⟩ 8 (by kernel_rfl) (by kernel_rfl) (by kernel_rfl) (by kernel_rfl)) ?_
  intro W base args ds gs before hval0 hW hcnd _
  have hval : ∀ (j : Nat) t v, Try.f3.params[j]? = some t → args[j]? = some v → Value.okWide Try.prog W .any base t v := hval0
  have hW' := hW
  obtain ⟨p, q, hA0, hV, rfl, hfz, hnd⟩ := hW
  have hA : DataW.TrodAll enc Try.prog W 0 (fun _ => true) true Try.f3.params.toList args.toList ds p := hA0
  rw [Try.params3] at hA hval
  obtain ⟨v0, vs0, d0, ds0, p0, q0, hargs, rfl, rfl, h0, r0⟩ := trodAll_cons hA
  obtain ⟨rfl, rfl, rfl⟩ := trodAll_nil r0
  obtain rfl : args = #[v0] := by cases args; simp_all
  obtain ⟨rfl, rfl⟩ := trodVars_none hV
  obtain ⟨a0, rfl, rfl, rfl, w0⟩ := open_string Try.underlying9 (hval 0 9 v0 rfl rfl) h0
  clear hA0 hval0
  simp only [List.append_nil] at hW'
  refine (walk a0 w0 W).mono fun e W' ⟨he, hg⟩ => ?_
  subst he
  exact ⟨_, rfl, post_of_same (pa := []) (pv := []) hW' (fun _ _ _ => (trodAll_cons_mk (shut_bool Try.underlying4 _) trodAll_mk0)) (fun sp _ => (trodAll_cons_mk (shut_string Try.underlying9 w0) trodAll_mk0)) (fun _ _ => rfl) rfl
    (hg.frame _) hg.2.1 (ok_one (by kernel_rfl) rfl (okWide_bool_mk Try.underlying4 _))⟩

theorem over : Rows.fnAtDigitAgreesWithHexDigitAtEveryOffsetRow.holds Try.pinned (OpenSpec.ofChange Rows.fnAtDigitAgreesWithHexDigitAtEveryOffsetSpec) :=
  OpenClaim.holds_of_wide 3 Try.f3 rfl rfl rfl rfl rfl rfl rfl ⟨rfl, rfl, rfl, rfl, rfl⟩ rfl rfl rfl rfl rfl (by kernel_rfl) Try.func3 (by kernel_rfl)
    (of_decide_eq_true (by kernel_rfl)) (by unfold Func.isWrapper; first | (rw [if_pos (by decide +kernel)]; kernel_rfl) | (rw [if_neg (by decide +kernel)]; exact ⟨rfl, rfl⟩))
    (fun os started H enc _ => lifted os started H enc)

/-- ████ THE STATEMENT ████ -/
theorem proved : Rows.FnAtDigitAgreesWithHexDigitAtEveryOffsetSaid :=
  over
#print axioms proved
end Go.Proofs.Qxb6613028a.fnAtDigitAgreesWithHexDigitAtEveryOffset
