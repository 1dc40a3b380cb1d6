import Derived.Test.Qxb6613106aTime
import Derived.Laws.ResultCell
namespace Go.Proofs.Qxb6613106a.Tm
open Go.RowKit

theorem or0 (x : Int) (h0 : 0 ≤ x) (h1 : x < 1073741824) : bits .or .u64 0 x = x := by
  rw [u64_or 0 x (by omega) (by omega) h0 (by omega)]
  show ((0 ||| x.toNat : Nat) : Int) = x
  rw [Nat.zero_or]
  omega
theorem and0 : bits .and .u64 0 1073741823 = 0 := by rw [u64_and 0 _ (by omega) (by omega) (by omega) (by omega)]; rfl
theorem andNot0 : bits .andNot .u64 0 1073741823 = 0 := by rw [u64_andNot 0 _ (by omega) (by omega) (by omega) (by omega)]; show ((0 &&& _ : Nat) : Int) = 0; rw [Nat.zero_and]; rfl

theorem parts (d : Int) : ∃ q r : Int, d.tdiv 1000000000 = q ∧ d.tmod 1000000000 = r ∧ ((0 ≤ r ∧ q = d / 1000000000 ∧ r = d % 1000000000) ∨ (r < 0 ∧ q - 1 = d / 1000000000 ∧ r + 1000000000 = d % 1000000000)) ∧ -1000000000 < r ∧ r < 1000000000 := by
  refine ⟨_, _, rfl, rfl, ?_⟩
  by_cases h : 0 ≤ d
  · rw [Int.tdiv_eq_ediv_of_nonneg h, Int.tmod_eq_emod_of_nonneg h]
    omega
  · obtain ⟨e, rfl⟩ : ∃ e, d = -e := ⟨-d, by omega⟩
    rw [Int.neg_tdiv, Int.neg_tmod, Int.tdiv_eq_ediv_of_nonneg (by omega), Int.tmod_eq_emod_of_nonneg (by omega)]
    omega

set_option maxHeartbeats 400000 in
theorem add0 (d : Int) (h0 : -9223372036854775808 ≤ d) (h1 : d ≤ 9223372036854775807) (w : World) :
    Calls Try.prog 22 #[.agg t0, .int .i64 d] w fun e w' => e = .returned (.agg (tc d)) ∧ w' = (w.alloc (.cells (tc d) 56)).alloc (.cells (tc d) 56) := by
  obtain ⟨q, r, hq, hr, hqr, hr1, hr2⟩ := parts d
  have q1 : -9223372037 ≤ q := by omega
  have q2 : q ≤ 9223372037 := by omega
  have z1 := and0
  have z2 := andNot0
  unfold t0 tc
  rcases hqr with ⟨p1, p2, p3⟩ | ⟨p1, p2, p3⟩
  · rw [← p2, ← p3]
    have o1 := or0 r p1 (by omega)
    have t1 := top63b r p1 (by omega)
    clear p2 p3 h0 h1
    go_enter Try.func22, Try.ntmps22
    go_wp2
    go_end0
    go_wp2
    exact bodyPost_ret (v := .agg #[.int .u64 r, .int .i64 q, .pointer none]) (by simp [results, Try.results22, go_sem]) rfl ⟨rfl, rfl⟩
  · rw [← p2, ← p3]
    have o1 := or0 (r + 1000000000) (by omega) (by omega)
    have t1 := top63b (r + 1000000000) (by omega) (by omega)
    clear p2 p3 h0 h1
    go_enter Try.func22, Try.ntmps22
    go_wp2
    go_end0
    go_wp2
    exact bodyPost_ret (v := .agg #[.int .u64 (r + 1000000000), .int .i64 (q - 1), .pointer none]) (by simp [results, Try.results22, go_sem]) rfl ⟨rfl, rfl⟩
end Go.Proofs.Qxb6613106a.Tm
