import Derived.Test.Qxb6613106aRows
import Derived.WalkKit
import Derived.Outline
import Derived.Laws.BitsAllLaws
namespace Go.Proofs.Qxb6613106a.Tm
open Go.RowKit

theorem ret_int {k : IntKind} {a b : Int} (h : a = b) : Ending.returned (.int k a) = .returned (.int k b) := by rw [h]

theorem mask30 (x : Int) (h0 : 0 ≤ x) (h1 : x < 1073741824) : bits .and .u64 x 1073741823 = x := by
  rw [u64_and x _ h0 (by omega) (by omega) (by omega)]
  have : x.toNat &&& 1073741823 = x.toNat % 2 ^ 30 := Nat.and_two_pow_sub_one_eq_mod x.toNat 30
  show ((x.toNat &&& 1073741823 : Nat) : Int) = x
  rw [this]
  omega

theorem nat_top (x : Nat) (h1 : x < 9223372036854775808) : x &&& 9223372036854775808 = 0 := by
  have := nat_bit 63 x
  rw [show (2 ^ 63 : Nat) = 9223372036854775808 from rfl, Nat.div_eq_of_lt h1] at this
  simpa using this

theorem top63 (x : Int) (h0 : 0 ≤ x) (h1 : x < 1073741824) : bits .and .u64 x 9223372036854775808 = 0 := by
  rw [u64_and x _ h0 (by omega) (by omega) (by omega)]
  show ((x.toNat &&& 9223372036854775808 : Nat) : Int) = 0
  rw [nat_top _ (by omega)]
  rfl

theorem and_range (x y : Int) (h0 : 0 ≤ x) (h1 : x < 1073741824) (h2 : 0 ≤ y) (h3 : y < 1073741824) : 0 ≤ bits .and .u64 x y ∧ bits .and .u64 x y < 1073741824 := by
  rw [u64_and x y h0 (by omega) h2 (by omega)]
  have : x.toNat &&& y.toNat ≤ x.toNat := Nat.and_le_left
  omega

theorem top63b (x : Int) (h0 : 0 ≤ x) (h1 : x < 1073741824) : (bits .and .u64 x 9223372036854775808 != 0) = false := by rw [top63 x h0 h1]; rfl
theorem top63c (x y : Int) (h0 : 0 ≤ x) (h1 : x < 1073741824) (h2 : 0 ≤ y) (h3 : y < 1073741824) : (bits .and .u64 (bits .and .u64 x y) 9223372036854775808 != 0) = false :=
  top63b _ (and_range x y h0 h1 h2 h3).1 (and_range x y h0 h1 h2 h3).2

theorem nsec_any (b : Nat) (x : Int) (h0 : 0 ≤ x) (h1 : x < 1000000000) (w : World) (hc : w.cell? ⟨b, 0, none⟩ = some (.int .u64 x)) :
    Calls Try.prog 30 #[.pointer (some ⟨b, 0, none⟩)] w fun e w' => e = .returned (.int .i32 x) ∧ w' = w := by
  go_enter Try.func30, Try.ntmps30
  go_wp2
  go_ret
  exact ⟨ret_int (by rw [mask30 x h0 (by omega)]; unfold wrap32; omega), rfl⟩

theorem sec_any (b : Nat) (x y : Int) (h0 : 0 ≤ x) (h1 : x < 1000000000) (w : World) (hc : w.cell? ⟨b, 0, none⟩ = some (.int .u64 x)) (hd : w.cell? ⟨b, 1, none⟩ = some (.int .i64 y)) :
    Calls Try.prog 34 #[.pointer (some ⟨b, 0, none⟩)] w fun e w' => e = .returned (.int .i64 y) ∧ w' = w := by
  have hb := top63b x h0 (by omega)
  go_enter Try.func34, Try.ntmps34
  go_wp2
  go_ret
  exact ⟨rfl, rfl⟩

/-- a time of ours: d nanoseconds from the zero time -/
def tc (d : Int) : Array Value := #[.int .u64 (d % 1000000000), .int .i64 (d / 1000000000), .pointer none]

theorem after_any (d1 d2 : Int) (w : World) :
    Calls Try.prog 37 #[.agg (tc d1), .agg (tc d2)] w fun e w' => e = .returned (.bool (decide (d2 < d1))) ∧ w' = (w.alloc (.cells (tc d1) 56)).alloc (.cells (tc d2) 56) := by
  unfold tc
  obtain ⟨n1, hn1⟩ : ∃ n, n = d1 % 1000000000 := ⟨_, rfl⟩
  obtain ⟨s1, hs1⟩ : ∃ n, n = d1 / 1000000000 := ⟨_, rfl⟩
  obtain ⟨n2, hn2⟩ : ∃ n, n = d2 % 1000000000 := ⟨_, rfl⟩
  obtain ⟨s2, hs2⟩ : ∃ n, n = d2 / 1000000000 := ⟨_, rfl⟩
  rw [← hn1, ← hs1, ← hn2, ← hs2]
  have a1 : 0 ≤ n1 := by omega
  have a2 : n1 < 1000000000 := by omega
  have b1 : 0 ≤ n2 := by omega
  have b2 : n2 < 1000000000 := by omega
  have hb := top63c n1 n2 a1 (by omega) b1 (by omega)
  have t1 := top63b n1 a1 (by omega)
  have t2 := top63b n2 b1 (by omega)
  have m1 := mask30 n1 a1 (by omega)
  have m2 := mask30 n2 b1 (by omega)
  by_cases c1 : s2 < s1
  · have e : decide (d2 < d1) = true := decide_eq_true (by omega)
    rw [e]
    clear e hn1 hs1 hn2 hs2
    go_enter Try.func37, Try.ntmps37
    go_wp2
    go_ret
    exact ⟨rfl, rfl⟩
  by_cases c2 : s1 < s2
  · have e : decide (d2 < d1) = false := decide_eq_false (by omega)
    rw [e]
    have c3 : (s1 == s2) = false := by simp; omega
    clear e hn1 hs1 hn2 hs2
    go_enter Try.func37, Try.ntmps37
    go_wp2
    go_ret
    exact ⟨rfl, rfl⟩
  obtain rfl : s1 = s2 := by omega
  have e : decide (d2 < d1) = decide (n2 < n1) := by
    by_cases h : n2 < n1
    · rw [decide_eq_true h]; exact decide_eq_true (by omega)
    · rw [decide_eq_false h]; exact decide_eq_false (by omega)
  rw [e]
  clear e hn1 hs1 hn2 hs2 c1 c2
  go_enter Try.func37, Try.ntmps37
  go_wp2
  go_ret
  exact ⟨rfl, rfl⟩
theorem before_any (d1 d2 : Int) (w : World) :
    Calls Try.prog 26 #[.agg (tc d1), .agg (tc d2)] w fun e w' => e = .returned (.bool (decide (d1 < d2))) ∧ w' = (w.alloc (.cells (tc d1) 56)).alloc (.cells (tc d2) 56) := by
  unfold tc
  obtain ⟨n1, hn1⟩ : ∃ n, n = d1 % 1000000000 := ⟨_, rfl⟩
  obtain ⟨s1, hs1⟩ : ∃ n, n = d1 / 1000000000 := ⟨_, rfl⟩
  obtain ⟨n2, hn2⟩ : ∃ n, n = d2 % 1000000000 := ⟨_, rfl⟩
  obtain ⟨s2, hs2⟩ : ∃ n, n = d2 / 1000000000 := ⟨_, rfl⟩
  rw [← hn1, ← hs1, ← hn2, ← hs2]
  have a1 : 0 ≤ n1 := by omega
  have a2 : n1 < 1000000000 := by omega
  have b1 : 0 ≤ n2 := by omega
  have b2 : n2 < 1000000000 := by omega
  have hb := top63c n1 n2 a1 (by omega) b1 (by omega)
  have t1 := top63b n1 a1 (by omega)
  have t2 := top63b n2 b1 (by omega)
  have m1 := mask30 n1 a1 (by omega)
  have m2 := mask30 n2 b1 (by omega)
  by_cases c1 : s2 < s1
  · have e : decide (d1 < d2) = false := decide_eq_false (by omega)
    rw [e]
    have c3 : (s1 == s2) = false := by simp; omega
    have c4 : decide (s1 < s2) = false := decide_eq_false (by omega)
    clear e hn1 hs1 hn2 hs2
    go_enter Try.func26, Try.ntmps26
    go_wp2
    go_ret
    exact ⟨rfl, rfl⟩
  by_cases c2 : s1 < s2
  · have e : decide (d1 < d2) = true := decide_eq_true (by omega)
    rw [e]
    clear e hn1 hs1 hn2 hs2
    go_enter Try.func26, Try.ntmps26
    go_wp2
    go_ret
    exact ⟨rfl, rfl⟩
  obtain rfl : s1 = s2 := by omega
  have e : decide (d1 < d2) = decide (n1 < n2) := by
    by_cases h : n1 < n2
    · rw [decide_eq_true h]; exact decide_eq_true (by omega)
    · rw [decide_eq_false h]; exact decide_eq_false (by omega)
  rw [e]
  clear e hn1 hs1 hn2 hs2 c1 c2
  go_enter Try.func26, Try.ntmps26
  go_wp2
  go_ret
  exact ⟨rfl, rfl⟩
theorem ret_bool {a b : Bool} (h : a = b) : Ending.returned (.bool a) = .returned (.bool b) := by rw [h]

theorem equal_any (d1 d2 : Int) (w : World) :
    Calls Try.prog 24 #[.agg (tc d1), .agg (tc d2)] w fun e w' => e = .returned (.bool (d1 == d2)) ∧ w' = (w.alloc (.cells (tc d1) 56)).alloc (.cells (tc d2) 56) := by
  unfold tc
  obtain ⟨n1, hn1⟩ : ∃ n, n = d1 % 1000000000 := ⟨_, rfl⟩
  obtain ⟨s1, hs1⟩ : ∃ n, n = d1 / 1000000000 := ⟨_, rfl⟩
  obtain ⟨n2, hn2⟩ : ∃ n, n = d2 % 1000000000 := ⟨_, rfl⟩
  obtain ⟨s2, hs2⟩ : ∃ n, n = d2 / 1000000000 := ⟨_, rfl⟩
  rw [← hn1, ← hs1, ← hn2, ← hs2]
  have a1 : 0 ≤ n1 := by omega
  have a2 : n1 < 1000000000 := by omega
  have b1 : 0 ≤ n2 := by omega
  have b2 : n2 < 1000000000 := by omega
  have hb := top63c n1 n2 a1 (by omega) b1 (by omega)
  have t1 := top63b n1 a1 (by omega)
  have t2 := top63b n2 b1 (by omega)
  have m1 := mask30 n1 a1 (by omega)
  have m2 := mask30 n2 b1 (by omega)
  by_cases c1 : s1 = s2
  · subst c1
    have e : (d1 == d2) = (n1 == n2) := by
      by_cases h : n1 = n2
      · have h2 : d1 = d2 := by omega
        rw [h, h2]; simp
      · have h2 : d1 ≠ d2 := by omega
        rw [beq_false_of_ne h, beq_false_of_ne h2]
    rw [e]
    clear e hn1 hs1 hn2 hs2
    go_enter Try.func24, Try.ntmps24
    go_wp2
    go_ret
    exact ⟨rfl, rfl⟩
  · have e : (d1 == d2) = false := by
      have h2 : d1 ≠ d2 := by omega
      exact beq_false_of_ne h2
    rw [e]
    have c3 : (s1 == s2) = false := by simp; omega
    clear e hn1 hs1 hn2 hs2
    go_enter Try.func24, Try.ntmps24
    go_wp2
    go_ret
    exact ⟨rfl, rfl⟩

/-- the zero time -/
def t0 : Array Value := #[.int .u64 0, .int .i64 0, .pointer none]

end Go.Proofs.Qxb6613106a.Tm
