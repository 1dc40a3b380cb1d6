import Derived.Lib.HexFns2
/-! THE PLAIN LAWS: no Go in sight. -/
namespace Go.Proofs.Qxb6613028aDoor.Plain
open Go Go.Lib

/-- the value of a byte as a hex digit of either case, or -1 -/
def hx (c : Int) : Int := if 48 ≤ c ∧ c ≤ 57 then c - 48 else if 97 ≤ c ∧ c ≤ 102 then c - 87 else if 65 ≤ c ∧ c ≤ 70 then c - 55 else -1

theorem hx_lo (c : Int) : -1 ≤ hx c := by unfold hx; (repeat' split) <;> omega
theorem hx_hi (c : Int) : hx c ≤ 15 := by unfold hx; (repeat' split) <;> omega

set_option maxRecDepth 100000 in
theorem v_fin : ∀ n : Fin 256, ((Hx.v (UInt8.ofNat n.val) : Nat) : Int) = if hx (n.val : Int) < 0 then 255 else hx (n.val : Int) := by decide +kernel

theorem v_hx (c : UInt8) : ((Hx.v c : Nat) : Int) = if hx (c.toNat : Int) < 0 then 255 else hx (c.toNat : Int) := by
  have h := v_fin ⟨c.toNat, c.toNat_lt⟩
  simpa using h

/-- the number at place j of a text (0 beyond it) -/
def num (s : ByteArray) (j : Nat) : Int := ((s.data.toList[j]?.getD 0).toNat : Int)

theorem num_at (s : ByteArray) (j : Nat) (h : j < s.size) : num s j = ((s[j]'h).toNat : Int) := by
  unfold num
  rw [List.getElem?_eq_getElem (by simpa using h)]
  rfl

theorem num_range (s : ByteArray) (j : Nat) : 0 ≤ num s j ∧ num s j ≤ 255 := by
  unfold num
  have := (s.data.toList[j]?.getD 0).toNat_lt
  omega

/-- 40 hex digits -/
def sig (s : ByteArray) : Bool := decide (s.size = 40) && (List.range 40).all fun j => decide (0 ≤ hx (num s j))

theorem sig_true {s : ByteArray} (h : sig s = true) : s.size = 40 ∧ ∀ j, j < 40 → 0 ≤ hx (num s j) := by
  unfold sig at h
  simp at h
  exact h

theorem sig_mk {s : ByteArray} (h : s.size = 40) (k : ∀ j, j < 40 → 0 ≤ hx (num s j)) : sig s = true := by
  unfold sig
  simp
  exact ⟨h, k⟩

theorem sig_no_size {s : ByteArray} (h : s.size ≠ 40) : sig s = false := by
  unfold sig
  simp [h]

theorem sig_no_at {s : ByteArray} (j : Nat) (hj : j < 40) (h : hx (num s j) < 0) : sig s = false := by
  by_cases e : sig s = true
  · have := (sig_true e).2 j hj
    omega
  · simpa using e

/-- the digits of a list of bytes -/
def vl (l : List UInt8) (j : Nat) : Nat := Hx.v (l[j]?.getD 0)

theorem decode_ok : ∀ (n : Nat) (l : List UInt8), l.length = 2 * n → (∀ j, j < 2 * n → vl l j ≤ 15) →
    (Hx.decode l).2 = .ok ∧ (Hx.decode l).1.length = n ∧ ∀ k, k < n → (Hx.decode l).1[k]?.getD 0 = UInt8.ofNat (vl l (2 * k) * 16 + vl l (2 * k + 1))
  | 0, l, hl, _ => by
    have : l = [] := List.length_eq_zero_iff.1 (by omega)
    subst this
    rw [Hx.decode_nil]
    exact ⟨rfl, rfl, fun k hk => absurd hk (by omega)⟩
  | n + 1, l, hl, h => by
    match l, hl with
    | p :: q :: t, hl =>
      have hp : Hx.v p ≤ 15 := by simpa [vl] using h 0 (by omega)
      have hq : Hx.v q ≤ 15 := by simpa [vl] using h 1 (by omega)
      have ht := decode_ok n t (by simp at hl; omega) (fun j hj => by
        have := h (j + 2) (by omega)
        simpa [vl] using this)
      rw [Hx.decode_two, if_neg (by omega), if_neg (by omega)]
      refine ⟨ht.1, by simp [ht.2.1], fun k hk => ?_⟩
      cases k with
      | zero => simp [vl]
      | succ k =>
        have := ht.2.2 k (by omega)
        have e1 : vl (p :: q :: t) (2 * (k + 1)) = vl t (2 * k) := by
          unfold vl
          rw [show 2 * (k + 1) = 2 * k + 1 + 1 by omega]
          simp
        have e2 : vl (p :: q :: t) (2 * (k + 1) + 1) = vl t (2 * k + 1) := by
          unfold vl
          rw [show 2 * (k + 1) + 1 = 2 * k + 1 + 1 + 1 by omega]
          simp
        rw [e1, e2]
        simpa using this

theorem decode_bad : ∀ (n : Nat) (l : List UInt8), l.length = 2 * n → (∃ j, j < 2 * n ∧ 15 < vl l j) → ∃ c, (Hx.decode l).2 = .bad c
  | 0, l, hl, h => by
    obtain ⟨j, hj, _⟩ := h
    omega
  | n + 1, l, hl, h => by
    match l, hl with
    | p :: q :: t, hl =>
      rw [Hx.decode_two]
      by_cases hp : 15 < Hx.v p
      · rw [if_pos hp]
        exact ⟨p, rfl⟩
      · rw [if_neg hp]
        by_cases hq : 15 < Hx.v q
        · rw [if_pos hq]
          exact ⟨q, rfl⟩
        · rw [if_neg hq]
          obtain ⟨j, hj, hv⟩ := h
          match j, hj, hv with
          | 0, _, hv => simp [vl] at hv; omega
          | 1, _, hv => simp [vl] at hv; omega
          | j + 2, hj, hv =>
            obtain ⟨c, hc⟩ := decode_bad n t (by simp at hl; omega) ⟨j, by omega, by simpa [vl] using hv⟩
            exact ⟨c, hc⟩

/-- what the two halves of a byte are -/
def byteOf (s : ByteArray) (k : Nat) : Int := hx (num s (2 * k)) * 16 + hx (num s (2 * k + 1))

theorem vl_num (s : ByteArray) (j : Nat) (h : 0 ≤ hx (num s j)) : ((vl s.data.toList j : Nat) : Int) = hx (num s j) := by
  unfold vl
  have := v_hx (s.data.toList[j]?.getD 0)
  rw [this]
  unfold num at h ⊢
  rw [if_neg (by omega)]

theorem vl_bad (s : ByteArray) (j : Nat) (h : hx (num s j) < 0) : 15 < vl s.data.toList j := by
  unfold vl
  have := v_hx (s.data.toList[j]?.getD 0)
  unfold num at h
  rw [if_pos h] at this
  omega

theorem len_of {s : ByteArray} (h : s.size = 40) : s.data.toList.length = 2 * 20 := by
  have : s.data.size = 40 := h
  simpa using this

theorem decode_sig {s : ByteArray} (h : sig s = true) : (Hx.decode s.data.toList).2 = .ok ∧ ∀ k, k < 20 → (((Hx.decode s.data.toList).1[k]?.getD 0).toNat : Int) = byteOf s k := by
  obtain ⟨h1, h2⟩ := sig_true h
  have hv : ∀ j, j < 40 → vl s.data.toList j ≤ 15 := fun j hj => by
    have a := vl_num s j (h2 j hj)
    have b := hx_hi (num s j)
    omega
  obtain ⟨a, _, c⟩ := decode_ok 20 s.data.toList (len_of h1) (fun j hj => hv j (by omega))
  refine ⟨a, fun k hk => ?_⟩
  rw [c k hk]
  have e1 := vl_num s (2 * k) (h2 _ (by omega))
  have e2 := vl_num s (2 * k + 1) (h2 _ (by omega))
  have b1 := hv (2 * k) (by omega)
  have b2 := hv (2 * k + 1) (by omega)
  unfold byteOf
  rw [UInt8.toNat_ofNat', Nat.mod_eq_of_lt (by omega)]
  omega

theorem decode_nosig {s : ByteArray} (hs : s.size = 40) (h : sig s = false) : ∃ c, (Hx.decode s.data.toList).2 = .bad c := by
  refine decode_bad 20 s.data.toList (len_of hs) ?_
  by_cases e : ∃ j, j < 40 ∧ hx (num s j) < 0
  · obtain ⟨j, hj, hv⟩ := e
    exact ⟨j, by omega, vl_bad s j hv⟩
  · have : sig s = true := sig_mk hs fun j hj => by
      by_cases hn : 0 ≤ hx (num s j)
      · exact hn
      · exact absurd ⟨j, hj, by omega⟩ e
    rw [this] at h
    cases h
end Go.Proofs.Qxb6613028aDoor.Plain
