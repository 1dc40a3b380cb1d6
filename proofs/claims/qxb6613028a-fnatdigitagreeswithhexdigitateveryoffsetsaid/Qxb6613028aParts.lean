import Derived.Test.Qxb6613028aRows
import Derived.WalkKit
import Derived.RowKit3
import Derived.Outline
namespace Go.Proofs.Qxb6613028a.Parts
open Go.RowKit

theorem ret_int {k : IntKind} {a b : Int} (h : a = b) : Ending.returned (.int k a) = .returned (.int k b) := by rw [h]

theorem ret_two {k : IntKind} {a b : Int} {p q : Bool} (h : a = b) (h' : p = q) : Ending.returned (.tuple #[.int k a, .bool p]) = .returned (.tuple #[.int k b, .bool q]) := by rw [h, h']

theorem bytes_ok (a0 : ByteArray) (h : a0.size ≤ 1048576) (w : World) :
    Calls Try.prog 4 #[.string a0] w fun e w' => e = .returned (.bool true) ∧ w = w' := by
  go_enter Try.func4, Try.ntmps4
  go_wp2
  go_ret
  exact ⟨rfl, rfl⟩

theorem bytes_no (a0 : ByteArray) (h : 1048576 < a0.size) (w : World) :
    Calls Try.prog 4 #[.string a0] w fun e w' => e = .returned (.bool false) ∧ w = w' := by
  go_enter Try.func4, Try.ntmps4
  go_wp2
  go_ret
  exact ⟨rfl, rfl⟩

def dv (c : Int) : Int := if 48 ≤ c ∧ c ≤ 57 then c - 48 else -1

theorem digAt : ∀ (k : Nat) (h : k < (⟨#[48, 49, 50, 51, 52, 53, 54, 55, 56, 57]⟩ : ByteArray).size), ((⟨#[48, 49, 50, 51, 52, 53, 54, 55, 56, 57]⟩ : ByteArray)[k]'h).toNat = 48 + k := by
  intro k h
  have h' : k < 10 := h
  match k, h' with
  | 0, _ => rfl
  | 1, _ => rfl
  | 2, _ => rfl
  | 3, _ => rfl
  | 4, _ => rfl
  | 5, _ => rfl
  | 6, _ => rfl
  | 7, _ => rfl
  | 8, _ => rfl
  | 9, _ => rfl

theorem decVal_any (c : Int) (w : World) :
    Calls Try.prog 8 #[.int .u8 c] w fun e w' => e = .returned (.int .i64 (dv c)) ∧ w' = w := by
  go_enter Try.func8, Try.ntmps8
  go_wp2
  go_loop [3] (fun i => ∃ k : Nat, k ≤ 10 ∧ i = .int .i64 k ∧ (c < 48 ∨ 48 + k ≤ c)) (fun i => 10 - (intOf i).toNat)
  case atStart => exact ⟨0, by omega, rfl, by omega⟩
  case round =>
    obtain ⟨k, hk, rfl, hc⟩ := hrel
    by_cases hlt : k < 10
    · have hd := digAt k hlt
      have HD : Hid (((⟨#[48, 49, 50, 51, 52, 53, 54, 55, 56, 57]⟩ : ByteArray)[k]'hlt).toNat = 48 + k) := hd
      clear hd
      go_wp2
      · have he : (((⟨#[48, 49, 50, 51, 52, 53, 54, 55, 56, 57]⟩ : ByteArray)[k]'hlt).toNat == c) = true := by assumption
        have hd := HD.out
        rw [hd] at he
        simp at he
        go_ret
        exact ⟨ret_int (by unfold dv; rw [if_pos (by omega)]; omega), rfl⟩
      · have he : (((⟨#[48, 49, 50, 51, 52, 53, 54, 55, 56, 57]⟩ : ByteArray)[k]'hlt).toNat == c) = false := by assumption
        have hd := HD.out
        rw [hd] at he
        simp at he
        go_round
        case rel => exact ⟨k + 1, by omega, by go_num, by omega⟩
        case measure => simp [intOf]; omega
    · go_wp2
      go_ret
      exact ⟨ret_int (by unfold dv; rw [if_neg (by omega)]), rfl⟩

theorem newParser (s : ByteArray) (i : Int) (w : World) :
    Calls Try.prog 5 #[.string s, .int .i64 i] w fun e w' => e = .returned (.pointer (some ⟨w.heap.size, 0, none⟩)) ∧ w' = w.alloc (.cells #[.string s, .int .i64 i, .int .i64 0, .pointer none, .int .i64 0, .map none] 32) := by
  go_enter Try.func5, Try.ntmps5
  go_wp2
  go_ret
  exact ⟨rfl, rfl⟩

/-- what 'hexDigit' gives: the number, and whether it is a digit -/
def hv (c : Int) : Int := if 48 ≤ c ∧ c ≤ 57 then c - 48 else if 97 ≤ c ∧ c ≤ 102 then c - 87 else if 65 ≤ c ∧ c ≤ 70 then c - 55 else 0
def hok (c : Int) : Bool := decide ((48 ≤ c ∧ c ≤ 57) ∨ (97 ≤ c ∧ c ≤ 102) ∨ (65 ≤ c ∧ c ≤ 70))

theorem hexDigit_any (c : Int) (h0 : 0 ≤ c) (h1 : c ≤ 255) (w : World) :
    Calls Try.prog 7 #[.int .u8 c] w fun e w' => e = .returned (.tuple #[.int .u8 (hv c), .bool (hok c)]) ∧ w' = w := by
  go_enter Try.func7, Try.ntmps7
  go_wp2
  all_goals
    go_ret2
    exact ⟨ret_two (by unfold hv; (repeat' split) <;> omega) (by unfold hok; first | exact (decide_eq_true (by omega)).symm | exact (decide_eq_false (by omega)).symm), rfl⟩
end Go.Proofs.Qxb6613028a.Parts
