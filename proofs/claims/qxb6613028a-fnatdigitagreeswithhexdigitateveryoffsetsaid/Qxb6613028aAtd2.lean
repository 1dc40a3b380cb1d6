import Derived.Test.Qxb6613028aAtd
namespace Go.Proofs.Qxb6613028a.Parts
open Go.RowKit

theorem zzatd_end (s : ByteArray) (b : Nat) (w : World) (h0 : w.cell? ⟨b, 0, none⟩ = some (.string s)) (h1 : w.cell? ⟨b, 1, none⟩ = some (.int .i64 s.size)) :
    Calls Try.prog 6 #[.pointer (some ⟨b, 0, none⟩)] w fun e w' => e = .returned (.bool false) ∧ ∃ n, w' = w.drewN n := by
  go_enter Try.func6, Try.ntmps6
  go_wp2_with (go_at_call 9; refine (atd_end s b w h0 h1).mono ?_; rintro e w' ⟨rfl, n, rfl⟩)
  go_ret
  exact ⟨rfl, _, rfl⟩

theorem zzatd_mid (s : ByteArray) (k b : Nat) (w : World) (hk : k < s.size) (hc : 48 ≤ s[k].toNat) (hc' : s[k].toNat ≤ 57) (h0 : w.cell? ⟨b, 0, none⟩ = some (.string s)) (h1 : w.cell? ⟨b, 1, none⟩ = some (.int .i64 k)) :
    Calls Try.prog 6 #[.pointer (some ⟨b, 0, none⟩)] w fun e w' => e = .returned (.bool true) ∧ ∃ n, w' = w.drewN n := by
  go_enter Try.func6, Try.ntmps6
  go_wp2_with (go_at_call 9; refine (atd_mid s k b w hk hc hc' h0 h1).mono ?_; rintro e w' ⟨rfl, n, rfl⟩)
  go_ret
  exact ⟨rfl, _, rfl⟩

theorem atd_no (s : ByteArray) (k b : Nat) (w : World) (hk : k < s.size) (hc : ¬ (48 ≤ s[k].toNat ∧ s[k].toNat ≤ 57)) (h0 : w.cell? ⟨b, 0, none⟩ = some (.string s)) (h1 : w.cell? ⟨b, 1, none⟩ = some (.int .i64 k)) :
    Calls Try.prog 9 #[.pointer (some ⟨b, 0, none⟩)] w fun e w' => e = .returned (.bool false) ∧ ∃ n, w' = w.drewN n := by
  by_cases h : s[k].toNat < 48
  · exact atd_low s k b w hk h h0 h1
  · exact atd_high s k b w hk (by omega) h0 h1

theorem zzatd_no (s : ByteArray) (k b : Nat) (w : World) (hk : k < s.size) (hc : ¬ (48 ≤ s[k].toNat ∧ s[k].toNat ≤ 57)) (h0 : w.cell? ⟨b, 0, none⟩ = some (.string s)) (h1 : w.cell? ⟨b, 1, none⟩ = some (.int .i64 k)) :
    Calls Try.prog 6 #[.pointer (some ⟨b, 0, none⟩)] w fun e w' => e = .returned (.bool false) ∧ ∃ n, w' = w.drewN n := by
  go_enter Try.func6, Try.ntmps6
  go_wp2_with (go_at_call 9; refine (atd_no s k b w hk hc h0 h1).mono ?_; rintro e w' ⟨rfl, n, rfl⟩)
  go_ret
  exact ⟨rfl, _, rfl⟩

theorem hex_digit (c : Int) (h0 : 48 ≤ c) (h1 : c ≤ 57) (w : World) :
    Calls Try.prog 7 #[.int .u8 c] w fun e w' => e = .returned (.tuple #[.int .u8 (c - 48), .bool true]) ∧ w' = w := by
  refine (hexDigit_any c (by omega) (by omega) w).mono ?_
  rintro e w' ⟨rfl, rfl⟩
  exact ⟨ret_two (by unfold hv; rw [if_pos (by omega)]) (by unfold hok; exact decide_eq_true (by omega)), rfl⟩

theorem hex_letter (c : Int) (h : (97 ≤ c ∧ c ≤ 102) ∨ (65 ≤ c ∧ c ≤ 70)) (w : World) :
    Calls Try.prog 7 #[.int .u8 c] w fun e w' => ∃ v : Int, (10 ≤ v ∧ v ≤ 15) ∧ e = .returned (.tuple #[.int .u8 v, .bool true]) ∧ w' = w := by
  refine (hexDigit_any c (by omega) (by omega) w).mono ?_
  rintro e w' ⟨rfl, rfl⟩
  exact ⟨hv c, by unfold hv; (repeat' split) <;> omega, ret_two rfl (by unfold hok; exact decide_eq_true (by omega)), rfl⟩

theorem hex_none (c : Int) (h0 : 0 ≤ c) (h1 : c ≤ 255) (h : ¬ ((48 ≤ c ∧ c ≤ 57) ∨ (97 ≤ c ∧ c ≤ 102) ∨ (65 ≤ c ∧ c ≤ 70))) (w : World) :
    Calls Try.prog 7 #[.int .u8 c] w fun e w' => e = .returned (.tuple #[.int .u8 0, .bool false]) ∧ w' = w := by
  refine (hexDigit_any c (by omega) (by omega) w).mono ?_
  rintro e w' ⟨rfl, rfl⟩
  exact ⟨ret_two (by unfold hv; (repeat' split) <;> omega) (by unfold hok; exact decide_eq_false h), rfl⟩

theorem dec_yes (c : Int) (h : 48 ≤ c ∧ c ≤ 57) (w : World) :
    Calls Try.prog 8 #[.int .u8 c] w fun e w' => e = .returned (.int .i64 (c - 48)) ∧ w' = w := by
  refine (decVal_any c w).mono ?_
  rintro e w' ⟨rfl, rfl⟩
  exact ⟨ret_int (by unfold dv; rw [if_pos h]), rfl⟩

theorem dec_no (c : Int) (h : ¬ (48 ≤ c ∧ c ≤ 57)) (w : World) :
    Calls Try.prog 8 #[.int .u8 c] w fun e w' => e = .returned (.int .i64 (-1)) ∧ w' = w := by
  refine (decVal_any c w).mono ?_
  rintro e w' ⟨rfl, rfl⟩
  exact ⟨ret_int (by unfold dv; rw [if_neg h]), rfl⟩

theorem grown_drewN {W w : World} (h : Grown W w) (n : Nat) : Grown W (w.drewN n) := by
  induction n with
  | zero => exact h
  | succ n ih => exact ih
end Go.Proofs.Qxb6613028a.Parts
