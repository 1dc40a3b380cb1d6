import Derived.Test.Qxb6613028aDoorRows
import Derived.Test.Qxb6613028aDoorPlain
import Derived.WalkKit
import Derived.Outline
namespace Go.Proofs.Qxb6613028aDoor.Parts
open Go.RowKit Plain

theorem ret_int {k : IntKind} {a b : Int} (h : a = b) : Ending.returned (.int k a) = .returned (.int k b) := by rw [h]
theorem ret_bool {a b : Bool} (h : a = b) : Ending.returned (.bool a) = .returned (.bool b) := by rw [h]

theorem bytes_ok (a0 : ByteArray) (i c : Int) (h : a0.size ≤ 1048576) (w : World) :
    Calls Tryd.prog 4 #[.string a0, .int .i64 i, .int .u8 c] w fun e w' => e = .returned (.bool true) ∧ w = w' := by
  go_enter Tryd.func4, Tryd.ntmps4
  go_wp2
  go_ret
  exact ⟨rfl, rfl⟩

theorem bytes_no (a0 : ByteArray) (i c : Int) (h : 1048576 < a0.size) (w : World) :
    Calls Tryd.prog 4 #[.string a0, .int .i64 i, .int .u8 c] w fun e w' => e = .returned (.bool false) ∧ w = w' := by
  go_enter Tryd.func4, Tryd.ntmps4
  go_wp2
  go_ret
  exact ⟨rfl, rfl⟩

theorem lowAt (k : Nat) (h : k < (⟨#[48, 49, 50, 51, 52, 53, 54, 55, 56, 57, 97, 98, 99, 100, 101, 102]⟩ : ByteArray).size) :
    (((⟨#[48, 49, 50, 51, 52, 53, 54, 55, 56, 57, 97, 98, 99, 100, 101, 102]⟩ : ByteArray)[k]'h).toNat : Int) = if k < 10 then 48 + (k : Int) else 87 + (k : Int) := by
  have h' : k < 16 := h
  match k, h' with
  | 0, _ => rfl
  | 1, _ => rfl
  | 2, _ => rfl
  | 3, _ => rfl
  | 4, _ => rfl
  | 5, _ => rfl
  | 6, _ => rfl
  | 7, _ => rfl
  | 8, _ => rfl
  | 9, _ => rfl
  | 10, _ => rfl
  | 11, _ => rfl
  | 12, _ => rfl
  | 13, _ => rfl
  | 14, _ => rfl
  | 15, _ => rfl
  | n + 16, hn => exact absurd hn (by omega)

theorem uppAt (k : Nat) (h : k < (⟨#[48, 49, 50, 51, 52, 53, 54, 55, 56, 57, 65, 66, 67, 68, 69, 70]⟩ : ByteArray).size) :
    (((⟨#[48, 49, 50, 51, 52, 53, 54, 55, 56, 57, 65, 66, 67, 68, 69, 70]⟩ : ByteArray)[k]'h).toNat : Int) = if k < 10 then 48 + (k : Int) else 55 + (k : Int) := by
  have h' : k < 16 := h
  match k, h' with
  | 0, _ => rfl
  | 1, _ => rfl
  | 2, _ => rfl
  | 3, _ => rfl
  | 4, _ => rfl
  | 5, _ => rfl
  | 6, _ => rfl
  | 7, _ => rfl
  | 8, _ => rfl
  | 9, _ => rfl
  | 10, _ => rfl
  | 11, _ => rfl
  | 12, _ => rfl
  | 13, _ => rfl
  | 14, _ => rfl
  | 15, _ => rfl
  | n + 16, hn => exact absurd hn (by omega)

theorem hx_hit (c : Int) (k : Nat) (hk : k < 16) (x : Int) (hx0 : x = (if k < 10 then 48 + (k : Int) else 87 + (k : Int)) ∨ x = (if k < 10 then 48 + (k : Int) else 55 + (k : Int))) (h : (x == c) = true) : (k : Int) = hx c := by
  have e : x = c := by simpa using h
  subst e
  unfold hx
  rcases hx0 with h0 | h0 <;> (rw [h0]; (repeat' split) <;> omega)

theorem hx_miss (c : Int) (k : Nat) (hk : k < 16) (x y : Int) (h1 : x = (if k < 10 then 48 + (k : Int) else 87 + (k : Int))) (h2 : y = (if k < 10 then 48 + (k : Int) else 55 + (k : Int))) (e1 : (x == c) = false) (e2 : (y == c) = false)
    (h : hx c < 0 ∨ (k : Int) ≤ hx c) : hx c < 0 ∨ ((k + 1 : Nat) : Int) ≤ hx c := by
  have n1 : x ≠ c := by simpa using e1
  have n2 : y ≠ c := by simpa using e2
  rw [h1] at n1
  rw [h2] at n2
  by_cases hn : hx c < 0
  · exact Or.inl hn
  have hne : hx c ≠ k := by
    intro he
    unfold hx at he
    (repeat' split at he) <;> (split at n1 <;> split at n2 <;> omega)
  right
  omega

abbrev LO : ByteArray := ⟨#[48, 49, 50, 51, 52, 53, 54, 55, 56, 57, 97, 98, 99, 100, 101, 102]⟩
abbrev UP : ByteArray := ⟨#[48, 49, 50, 51, 52, 53, 54, 55, 56, 57, 65, 66, 67, 68, 69, 70]⟩

theorem hexVal_any (c : Int) (w : World) :
    Calls Tryd.prog 7 #[.int .u8 c] w fun e w' => e = .returned (.int .i64 (hx c)) ∧ w' = w := by
  go_enter Tryd.func7, Tryd.ntmps7
  go_wp2
  go_loop [3] (fun i => ∃ k : Nat, k ≤ 16 ∧ i = .int .i64 k ∧ Hid (hx c < 0 ∨ (k : Int) ≤ hx c)) (fun i => 16 - (intOf i).toNat)
  case atStart => exact ⟨0, by omega, rfl, by show _ ∨ _; omega⟩
  case round =>
    obtain ⟨k, hk, rfl, hc⟩ := hrel
    by_cases hlt : k < 16
    · go_wp2
      · have e : ((LO[k]'hlt).toNat : Int) = c := by assumption
        go_ret
        exact ⟨ret_int (hx_hit c k hlt _ (Or.inl (lowAt k hlt)) (by simpa using e)), rfl⟩
      · have e : (((LO[k]'hlt).toNat : Int) == c) = true ∨ (((UP[k]'hlt).toNat : Int) == c) = true := by assumption
        go_ret
        exact ⟨ret_int (by
          rcases e with e | e
          · exact hx_hit c k hlt _ (Or.inl (lowAt k hlt)) e
          · exact hx_hit c k hlt _ (Or.inr (uppAt k hlt)) e), rfl⟩
      · have e : (((LO[k]'hlt).toNat : Int) == c) = false ∧ (((UP[k]'hlt).toNat : Int) == c) = false := by assumption
        go_round
        case rel => exact ⟨k + 1, by omega, by go_num, hx_miss c k hlt _ _ (lowAt k hlt) (uppAt k hlt) e.1 e.2 hc.out⟩
        case measure => simp [intOf]; omega
    · go_wp2
      go_ret
      exact ⟨ret_int (by have := hc.out; have := hx_hi c; have := hx_lo c; omega), rfl⟩

theorem isSig_no (s : ByteArray) (h : s.size ≠ 40) (w : World) :
    Calls Tryd.prog 6 #[.string s] w fun e w' => e = .returned (.bool (sig s)) ∧ w' = w := by
  have hb : ((s.size : Int) != 40) = true := by simp; omega
  go_enter Tryd.func6, Tryd.ntmps6
  go_wp2
  go_ret
  exact ⟨ret_bool (sig_no_size h).symm, rfl⟩

theorem isSig_40 (s : ByteArray) (h : s.size = 40) (w : World) :
    Calls Tryd.prog 6 #[.string s] w fun e w' => e = .returned (.bool (sig s)) ∧ w' = w := by
  have hb : ((s.size : Int) != 40) = false := by simp; omega
  have h1 : s.size ≤ 40 := by omega
  have h2 : 40 ≤ s.size := by omega
  have H : Hid (s.size = 40) := h
  clear h
  go_enter Tryd.func6, Tryd.ntmps6
  go_wp2
  go_loop [3] (fun i => ∃ k : Nat, k ≤ 40 ∧ i = .int .i64 k ∧ Hid (∀ j, j < k → 0 ≤ hx (num s j))) (fun i => 40 - (intOf i).toNat)
  case atStart => exact ⟨0, by omega, rfl, fun j hj => absurd hj (by omega)⟩
  case round =>
    obtain ⟨k, hk, rfl, hall⟩ := hrel
    by_cases hlt : k < s.size
    · by_cases hneg : hx (s[k].toNat : Int) < 0
      · go_wp2_with (go_at_call 7; refine (hexVal_any _ _).mono ?_; rintro e w' ⟨rfl, rfl⟩)
        go_ret
        exact ⟨ret_bool (sig_no_at k (by omega) (by rw [num_at s k hlt]; exact hneg)).symm, rfl⟩
      · go_wp2_with (go_at_call 7; refine (hexVal_any _ _).mono ?_; rintro e w' ⟨rfl, rfl⟩)
        go_round
        case rel =>
          refine ⟨k + 1, by omega, by go_num, fun j hj => ?_⟩
          by_cases e : j = k
          · subst e
            rw [num_at s j hlt]
            omega
          · exact hall.out j (by omega)
        case measure => simp [intOf]; omega
    · go_wp2
      go_ret
      exact ⟨ret_bool (sig_mk H.out fun j hj => hall.out j (by omega)).symm, rfl⟩

theorem isSig_any (s : ByteArray) (w : World) :
    Calls Tryd.prog 6 #[.string s] w fun e w' => e = .returned (.bool (sig s)) ∧ w' = w := by
  by_cases h : s.size = 40
  · exact isSig_40 s h w
  · exact isSig_no s h w
end Go.Proofs.Qxb6613028aDoor.Parts
