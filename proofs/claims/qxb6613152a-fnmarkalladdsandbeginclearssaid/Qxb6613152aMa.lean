import Derived.Test.Qxb6613152aWk
namespace Go.Proofs.Qxb6613152a.Wk
open Go.RowKit Qfr

/-- the row of marks when the first k of p are marked -/
def lay (p : Nat → Int) (mk : Int) (f : Nat → Int) : Nat → Nat → Int
  | 0 => f
  | k + 1 => fun i => if i = (p k).toNat then mk else lay p mk f k i

theorem wrapN (n : Nat) (h : n ≤ 1000000) : IntKind.i64.wrap (n : Int) = n := by rw [IntKind.wrap_i64]; omega

theorem RW.frame {w w' : World} {S : Nat → Prop} {a : Option Addr} {n : Nat} {f : Nat → Int} (h : RW w a n f) (hb : Fr S w w') (hS : ∀ x, a = some x → 0 < n → ¬ S x.block) : RW w' a n f := fun i hi => by
  obtain ⟨b, off, ha, hlt, hc, h0, h1⟩ := h i hi
  exact ⟨b, off, ha, Nat.lt_of_lt_of_le hlt hb.size, hb.cell hc (hS ⟨b, off, none⟩ ha (by omega)), h0, h1⟩

/-- what the loop of 'markAll' keeps -/
structure MA (w W wr : World) (B : Nat) (a : Option Addr) (n : Nat) (mk vs : Int) (f : Nat → Int) : Prop where
  wk : WK w wr B a n mk vs f
  fr : Fr (Own B a) W wr
theorem MA.hid {w W wr : World} {B n : Nat} {a : Option Addr} {mk vs : Int} {f : Nat → Int} (h : MA w W wr B a n mk vs f) : Hid (MA w W wr B a n mk vs f) := h

set_option maxHeartbeats 1000000 in
theorem markAll27 {w W : World} {B n l c : Nat} {a a2 : Option Addr} {mk vs : Int} {f p : Nat → Int} (h : WK w W B a n mk vs f) (hl : l ≤ 65536) (hp : RW W a2 l p) (hsep : ∀ x, a2 = some x → 0 < l → ¬ Own B a x.block) (hlt : ∀ j, j < l → p j < n) :
    Calls Try.prog 27 #[.pointer (some ⟨B, 0, none⟩), .slice a2 l c] W fun e w' => e = .returned (.tuple #[]) ∧ Fr (Own B a) W w' ∧ ∃ vs', WK w w' B a n mk vs' (lay p mk f l) := by
  have H : Hid (MA w W W B a n mk vs (lay p mk f 0)) := ⟨h, Fr.refl _ _⟩
  have HP : Hid (RW W a2 l p ∧ (∀ x, a2 = some x → 0 < l → ¬ Own B a x.block) ∧ ∀ j, j < l → p j < n) := ⟨hp, hsep, hlt⟩
  clear h hp hsep hlt
  go_enter Try.func27, Try.ntmps27
  go_wp2_with fail
  go_loopw [8] (fun v8 wr => ∃ k : Nat, k ≤ l ∧ v8 = .int .i64 (k : Int) ∧ Hid (MA w W wr B a n mk vs (lay p mk f k))) (fun v8 _ => l - (intOf v8).toNat)
  case atStart => exact ⟨0, by omega, rfl, H⟩
  case round =>
    clear H
    obtain ⟨k, hkl, rfl, hM⟩ := hrel
    by_cases hk : k < l
    · obtain ⟨b, off, ha2, hb, hc, h0, h1⟩ := HP.out.1 k hk
      have hq := HP.out.2.2 k hk
      obtain ⟨q, hq'⟩ : ∃ q : Nat, p k = q := ⟨(p k).toNat, by omega⟩
      have hqn : q < n := by omega
      obtain ⟨g, ha, hg, hne, hcg, hfg⟩ := hM.out.wk.row q hqn
      have hidx := idx22 ha2 l c k hk
      have hidz := idx22z ha n n q hqn
      have c0 : wr.cell? ⟨b, off + k, none⟩ = some (.int .u32 (q : Int)) := by
        rw [← hq']
        exact hM.out.fr.cell hc (HP.out.2.1 ⟨b, off, none⟩ ha2 (by omega))
      have c2 := hM.out.wk.ms
      have c3 := hM.out.wk.mc
      have n0 : ¬ g = B := hne
      have n1 : ¬ B = g := fun e => hne e.symm
      have HX : Hid (MA w W (wr.setCell ⟨g, q, none⟩ (.int .u32 mk)).drew B a n mk vs (lay p mk f (k + 1))) := by
        refine ⟨?_, (hM.out.fr.setCell (p := ⟨g, q, none⟩) (.inl (.inr ⟨⟨g, 0, none⟩, ha, rfl⟩)) _).drew⟩
        have := (hM.out.wk.lay hqn ha mk).drew
        have e : (p k).toNat = q := by omega
        unfold lay
        rw [e]
        exact this
      clear hc hb h0 h1 hq hq' ha2 hg
      go_wp2
      go_region_held3 (fun w' => w'.cell? ⟨B, 2, none⟩ = some (.slice a n n) ∧ w'.cell? ⟨B, 3, none⟩ = some (.int .u32 mk)) (simp [go_sem, *]) (fail)
      rename_i hHeld
      clear hHeld c0 c2 c3 n0 n1 hcg hfg ha hne
      go_wp2
      go_roundw
      case rel => exact ⟨k + 1, by omega, by go_num, HX⟩
      case measure => simp [intOf]; omega
    · obtain rfl : k = l := by omega
      have c6 := hM.out.wk.vc
      have f6 := hM.out.wk.fz 6
      go_wp2
      go_end0
      exact ⟨rfl, hM.out.fr.setCell (.inl (.inl rfl)) _, IntKind.u64.wrap (vs + (k : Int)), hM.out.wk.set 6 (.int .u64 (IntKind.u64.wrap (vs + (k : Int)))) mk _ (by omega) (by omega) (by simp) (by simp)⟩

theorem lay_spec (p : Nat → Int) (mk : Int) (f : Nat → Int) (q : Nat) (hf : f q < mk) : ∀ k, (∀ j, j < k → 0 ≤ p j) → (lay p mk f k q == mk) = decide (∃ j, j < k ∧ p j = q)
  | 0, _ => by
    have h1 : ¬ ∃ j, j < 0 ∧ p j = (q : Int) := fun ⟨j, hj, _⟩ => absurd hj (by omega)
    rw [decide_eq_false h1]
    simp [lay]
    omega
  | k + 1, h => by
    have ih := lay_spec p mk f q hf k (fun j hj => h j (by omega))
    have hk := h k (by omega)
    unfold lay
    by_cases e : q = (p k).toNat
    · rw [if_pos e, decide_eq_true ⟨k, by omega, by omega⟩]
      simp
    · rw [if_neg e, ih]
      have : (∃ j, j < k ∧ p j = (q : Int)) ↔ ∃ j, j < k + 1 ∧ p j = (q : Int) := by
        constructor
        · rintro ⟨j, hj, hp⟩
          exact ⟨j, by omega, hp⟩
        · rintro ⟨j, hj, hp⟩
          by_cases ej : j = k
          · subst ej
            exact absurd hp (by omega)
          · exact ⟨j, by omega, hp⟩
      exact decide_eq_decide.2 this

/-- 'markOnly' -/
theorem markOnly25 {w W : World} {B n l c : Nat} {a a2 : Option Addr} {mk vs : Int} {f p : Nat → Int} (h : WK w W B a n mk vs f) (hl : l ≤ 65536) (hp : RW W a2 l p) (hsep : ∀ x, a2 = some x → 0 < l → ¬ Own B a x.block) (hlt : ∀ j, j < l → p j < n)
    (h0 : 0 ≤ mk) (h1 : mk < 4294967296) (hn : n ≤ 65536) (hf : ∀ i, i < n → f i ≤ mk) :
    Calls Try.prog 25 #[.pointer (some ⟨B, 0, none⟩), .slice a2 l c] W fun e w' => e = .returned (.tuple #[]) ∧ Fr (Own B a) W w' ∧ ∃ mk' vs' f', WK w w' B a n mk' vs' (lay p mk' f' l) ∧ 0 ≤ mk' ∧ mk' < 4294967296 ∧ ∀ i, i < n → f' i < mk' := by
  have HB : Hid (Calls Try.prog 28 #[.pointer (some ⟨B, 0, none⟩)] W fun e w' => e = .returned (.tuple #[]) ∧ Fr (Own B a) W w' ∧ ∃ mk' f', WK w w' B a n mk' vs f' ∧ 0 ≤ mk' ∧ mk' < 4294967296 ∧ ∀ i, i < n → f' i < mk') := begin_any h h0 h1 hn hf
  have HP : Hid (RW W a2 l p ∧ (∀ x, a2 = some x → 0 < l → ¬ Own B a x.block) ∧ ∀ j, j < l → p j < n) := ⟨hp, hsep, hlt⟩
  clear h hp hsep hlt hf
  go_enter Try.func25, Try.ntmps25
  go_wp2_with (first
    | (go_at_call 28; refine HB.out.mono ?_; rintro e w1 ⟨rfl, hfr, mk', f', hwk, hm0, hm1, hf'⟩; have HW : Hid (WK w w1 B a n mk' vs f' ∧ Fr (Own B a) W w1 ∧ 0 ≤ mk' ∧ mk' < 4294967296 ∧ ∀ i, i < n → f' i < mk') := ⟨hwk, hfr, hm0, hm1, hf'⟩; clear hwk hfr hm0 hm1 hf')
    | (go_at_call 27; refine (markAll27 HW.out.1 hl (RW.frame HP.out.1 HW.out.2.1 HP.out.2.1) HP.out.2.1 HP.out.2.2).mono ?_; rintro e w2 ⟨rfl, hfr2, vs', hwk2⟩))
  go_end0
  exact ⟨rfl, HW.out.2.1.trans hfr2 (fun _ _ h => h), mk', vs', f', hwk2, HW.out.2.2.1, HW.out.2.2.2.1, HW.out.2.2.2.2⟩

theorem markOnly10 {w W : World} {B n l c : Nat} {a a2 : Option Addr} {mk vs : Int} {f p : Nat → Int} (h : WK w W B a n mk vs f) (hl : l ≤ 65536) (hp : RW W a2 l p) (hsep : ∀ x, a2 = some x → 0 < l → ¬ Own B a x.block) (hlt : ∀ j, j < l → p j < n)
    (h0 : 0 ≤ mk) (h1 : mk < 4294967296) (hn : n ≤ 65536) (hf : ∀ i, i < n → f i ≤ mk) :
    Calls Try.prog 10 #[.pointer (some ⟨B, 0, none⟩), .slice a2 l c] W fun e w' => e = .returned (.tuple #[]) ∧ Fr (Own B a) W w' ∧ ∃ mk' vs' f', WK w w' B a n mk' vs' (lay p mk' f' l) ∧ 0 ≤ mk' ∧ mk' < 4294967296 ∧ ∀ i, i < n → f' i < mk' := by
  have HB : Hid (Calls Try.prog 25 #[.pointer (some ⟨B, 0, none⟩), .slice a2 l c] W fun e w' => e = .returned (.tuple #[]) ∧ Fr (Own B a) W w' ∧ ∃ mk' vs' f', WK w w' B a n mk' vs' (lay p mk' f' l) ∧ 0 ≤ mk' ∧ mk' < 4294967296 ∧ ∀ i, i < n → f' i < mk') := markOnly25 h hl hp hsep hlt h0 h1 hn hf
  clear h hp hsep hlt hf
  go_enter Try.func10, Try.ntmps10
  go_wp2_with (go_at_call 25; refine HB.out.mono ?_; rintro e w1 ⟨rfl, hx⟩)
  go_end0
  exact ⟨rfl, hx⟩
end Go.Proofs.Qxb6613152a.Wk
