import Derived.Test.Qxb6613152aOn
namespace Go.Proofs.Qxb6613152a.Wk
open Go.RowKit Qfr

theorem bytes12_ok (a1 a2 a3 : Option Addr) (l1 c1 l2 c2 l3 c3 : Nat) (m : Int) (h1 : l1 ≤ 65536) (h2 : l2 ≤ 65536) (h3 : l3 ≤ 65536) (w : World) :
    Calls Try.prog 12 #[.slice a1 l1 c1, .int .u32 m, .slice a2 l2 c2, .slice a3 l3 c3] w fun e w' => e = .returned (.bool true) ∧ w = w' := by
  have e1 : IntKind.i64.wrap ((l1 : Int) + (l2 : Int)) = (l1 : Int) + l2 := by rw [IntKind.wrap_i64]; omega
  have e2 : IntKind.i64.wrap ((l1 : Int) + (l2 : Int) + (l3 : Int)) = (l1 : Int) + l2 + l3 := by rw [IntKind.wrap_i64]; omega
  go_enter Try.func12, Try.ntmps12
  go_wp2
  go_ret
  exact ⟨rfl, rfl⟩

/-- 'want' filled further: D is what it held -/
structure WU (W2 wr : World) (G n k : Nat) (D : Nat → Bool) (p : Nat → Int) : Prop where
  fr : Fr (fun j => j = G) W2 wr
  glt : G < wr.heap.size
  cells : ∀ q : Nat, q < n → wr.cell? ⟨G, q, none⟩ = some (.bool (D q || decide (∃ j, j < k ∧ p j = (q : Int))))
  fz : ∀ x, wr.frozen? ⟨G, x, none⟩ = false
theorem WU.hid {W2 wr : World} {G n k : Nat} {D : Nat → Bool} {p : Nat → Int} (h : WU W2 wr G n k D p) : Hid (WU W2 wr G n k D p) := h
theorem WU.start {W2 wr : World} {G n l : Nat} {p : Nat → Int} (h : WT W2 wr G n l p) (p' : Nat → Int) : WU W2 wr G n 0 (fun q => decide (∃ j, j < l ∧ p j = (q : Int))) p' := by
  refine ⟨h.fr, h.glt, fun q hq => ?_, h.fz⟩
  have hf : ¬ ∃ j, j < 0 ∧ p' j = (q : Int) := fun ⟨j, hj, _⟩ => absurd hj (by omega)
  rw [decide_eq_false hf, Bool.or_false]
  exact h.cells q hq
theorem WU.step {W2 wr : World} {G n k q : Nat} {D : Nat → Bool} {p : Nat → Int} (h : WU W2 wr G n k D p) (hq : q < n) (hp : p k = (q : Int)) : WU W2 (wr.setCell ⟨G, q, none⟩ (.bool true)) G n (k + 1) D p := by
  refine ⟨h.fr.setCell (.inl rfl) _, by simpa using h.glt, fun r hr => ?_, fun x => by simp [h.fz x]⟩
  by_cases e : r = q
  · subst e
    rw [decide_eq_true ⟨k, by omega, hp⟩, Bool.or_true]
    exact World.cell?_setCell_same _ _ _ (h.cells r hr)
  · rw [set_oth _ _ _ _ _ (fun e' => e e'.symm), h.cells r hr]
    have : (∃ j, j < k ∧ p j = (r : Int)) ↔ ∃ j, j < k + 1 ∧ p j = (r : Int) := by
      constructor
      · rintro ⟨j, hj, hpj⟩
        exact ⟨j, by omega, hpj⟩
      · rintro ⟨j, hj, hpj⟩
        by_cases ej : j = k
        · subst ej
          exact absurd (hpj.symm.trans hp) (by omega)
        · exact ⟨j, by omega, hpj⟩
    rw [decide_eq_decide.2 this]
theorem WU.back {W2 wr : World} {G n k : Nat} {D : Nat → Bool} {p : Nat → Int} (h : WU W2 wr G n k D p) : WT W2 wr G 0 0 p := ⟨h.fr, h.glt, fun q hq => absurd hq (by omega), h.fz⟩

theorem lay_or (p : Nat → Int) (mk : Int) (g : Nat → Int) (q : Nat) : ∀ k, (∀ j, j < k → 0 ≤ p j) → (lay p mk g k q == mk) = ((g q == mk) || decide (∃ j, j < k ∧ p j = (q : Int)))
  | 0, _ => by
    have h1 : ¬ ∃ j, j < 0 ∧ p j = (q : Int) := fun ⟨j, hj, _⟩ => absurd hj (by omega)
    rw [decide_eq_false h1, Bool.or_false]
    rfl
  | k + 1, h => by
    have ih := lay_or p mk g q k (fun j hj => h j (by omega))
    have hk := h k (by omega)
    unfold lay
    by_cases e : q = (p k).toNat
    · rw [if_pos e, decide_eq_true ⟨k, by omega, by omega⟩]
      simp
    · rw [if_neg e, ih]
      have : (∃ j, j < k ∧ p j = (q : Int)) ↔ ∃ j, j < k + 1 ∧ p j = (q : Int) := by
        constructor
        · rintro ⟨j, hj, hp⟩
          exact ⟨j, by omega, hp⟩
        · rintro ⟨j, hj, hp⟩
          by_cases ej : j = k
          · subst ej
            exact absurd hp (by omega)
          · exact ⟨j, by omega, hp⟩
      rw [decide_eq_decide.2 this]
theorem lay_le (p : Nat → Int) (mk : Int) (g : Nat → Int) (q : Nat) (h : g q ≤ mk) : ∀ k, lay p mk g k q ≤ mk
  | 0 => h
  | k + 1 => by
    unfold lay
    split
    · omega
    · exact lay_le p mk g q h k

theorem markAll13 {w W : World} {B n l c : Nat} {a a2 : Option Addr} {mk vs : Int} {f p : Nat → Int} (h : WK w W B a n mk vs f) (hl : l ≤ 65536) (hp : RW W a2 l p) (hsep : ∀ x, a2 = some x → 0 < l → ¬ Own B a x.block) (hlt : ∀ j, j < l → p j < n) :
    Calls Try.prog 13 #[.pointer (some ⟨B, 0, none⟩), .slice a2 l c] W fun e w' => e = .returned (.tuple #[]) ∧ Fr (Own B a) W w' ∧ ∃ vs', WK w w' B a n mk vs' (lay p mk f l) := by
  have HB : Hid (Calls Try.prog 27 #[.pointer (some ⟨B, 0, none⟩), .slice a2 l c] W fun e w' => e = .returned (.tuple #[]) ∧ Fr (Own B a) W w' ∧ ∃ vs', WK w w' B a n mk vs' (lay p mk f l)) := markAll27 h hl hp hsep hlt
  clear h hp hsep hlt
  go_enter Try.func13, Try.ntmps13
  go_wp2_with (go_at_call 27; refine HB.out.mono ?_; rintro e w1 ⟨rfl, hx⟩)
  go_end0
  exact ⟨rfl, hx⟩
theorem begin14 {w W : World} {B n : Nat} {a : Option Addr} {mk vs : Int} {f : Nat → Int} (h : WK w W B a n mk vs f) (h0 : 0 ≤ mk) (h1 : mk < 4294967296) (hn : n ≤ 65536) (hf : ∀ i, i < n → f i ≤ mk) :
    Calls Try.prog 14 #[.pointer (some ⟨B, 0, none⟩)] W fun e w' => e = .returned (.tuple #[]) ∧ Fr (Own B a) W w' ∧ ∃ mk' f', WK w w' B a n mk' vs f' ∧ 0 ≤ mk' ∧ mk' < 4294967296 ∧ ∀ i, i < n → f' i < mk' := by
  have HB : Hid (Calls Try.prog 28 #[.pointer (some ⟨B, 0, none⟩)] W fun e w' => e = .returned (.tuple #[]) ∧ Fr (Own B a) W w' ∧ ∃ mk' f', WK w w' B a n mk' vs f' ∧ 0 ≤ mk' ∧ mk' < 4294967296 ∧ ∀ i, i < n → f' i < mk') := begin_any h h0 h1 hn hf
  clear h hf
  go_enter Try.func14, Try.ntmps14
  go_wp2_with (go_at_call 28; refine HB.out.mono ?_; rintro e w1 ⟨rfl, hx⟩)
  go_end0
  exact ⟨rfl, hx⟩
end Go.Proofs.Qxb6613152a.Wk
