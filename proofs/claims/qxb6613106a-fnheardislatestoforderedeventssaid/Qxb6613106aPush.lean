import Derived.Test.Qxb6613106aRows
import Derived.Test.Qxb6613106aFrame
import Derived.Outline
namespace Go.Proofs.Qxb6613106a.Push
open Go.RowKit Qfr

theorem newItem (r x : Int) (w : World) :
    Calls Try.prog 16 #[.int .i64 r, .int .i64 x] w fun e w' => e = .returned (ptr w.heap.size) ∧ w' = w.alloc (.cells (item r x) 101) := by
  go_enter Try.func16, Try.ntmps16
  go_wp2
  go_ret
  exact ⟨rfl, rfl⟩

theorem itemIndex (b : Nat) (x : Int) (w : World) (h : w.cell? ⟨b, 5, none⟩ = some (.int .i64 x)) :
    Calls Try.prog 18 #[.pointer (some ⟨b, 0, none⟩)] w fun e w' => e = .returned (.int .i64 x) ∧ w' = w := by
  go_enter Try.func18, Try.ntmps18
  go_wp2
  go_ret
  exact ⟨rfl, rfl⟩

theorem itemReads (b : Nat) (x : Int) (w : World) (h : w.cell? ⟨b, 4, none⟩ = some (.int .i64 x)) :
    Calls Try.prog 19 #[.pointer (some ⟨b, 0, none⟩)] w fun e w' => e = .returned (.int .i64 x) ∧ w' = w := by
  go_enter Try.func19, Try.ntmps19
  go_wp2
  go_ret
  exact ⟨rfl, rfl⟩

theorem run_assert (b : Nat) (w : World) : (Instr.typeAssert (.iface 43 (.pointer (some ⟨b, 0, none⟩))) 20 43 false).run Try.prog w = .ok (.pointer (some ⟨b, 0, none⟩)) w := by kernel_rfl

theorem info43 : (Try.prog.info? 43).map (fun i => (i.zero, i.size, i.bytes)) = some (some (.pointer none), 1, 8) := by kernel_rfl

/-- what a push leaves -/
structure Pushed (w w' : World) (Q p : Nat) (v : Value) (g cap n : Nat) (xs : List Value) (base : Nat) (r : Int) : Prop where
  own : w'.ownsRow base 43 1 (.slice (some ⟨g, 0, none⟩) (n + 1) cap) (n + 1) (xs ++ [ptr p])
  qc : w'.heap[Q]? = some (.cells #[.slice (some ⟨g, 0, none⟩) (n + 1) cap] 42 (0, 0))
  pc : w'.heap[p]? = some (.cells (item r (n : Int)) 101 (0, 0))
  lies : v.ownBlock = some g ∨ w.heap.size ≤ g
  fr : Fr (fun k => k = Q ∨ k = p ∨ v.ownBlock = some k) w w'

theorem push_fin {w W w1 : World} {Q p : Nat} {a : Option Addr} {n cp g cap base : Nat} {xs : List Value} {r : Int} (hgQ : (Value.slice a n cp).ownBlock ≠ some Q) (hgp : (Value.slice a n cp).ownBlock ≠ some p) (hQp : Q ≠ p)
    (hF : Fr (fun k => k = Q ∨ k = p ∨ (Value.slice a n cp).ownBlock = some k) w W) (hQ : W.heap[Q]? = some (.cells #[.slice a n cp] 42 (0, 0))) (hP : W.heap[p]? = some (.cells (item r (n : Int)) 101 (0, 0)))
    (hown : w1.ownsRow base 43 1 (.slice (some ⟨g, 0, none⟩) (n + 1) cap) (n + 1) (xs ++ [ptr p])) (hgrow : W.grownBy w1 (Value.slice a n cp).ownBlock) (hat : (Value.slice a n cp).ownBlock = some g ∨ g = w.heap.size + 1) :
    Hid (w1.cell? ⟨Q, 0, none⟩ = some (.slice a n cp) ∧ w1.frozen? ⟨Q, 0, none⟩ = false ∧ Pushed w (w1.setCell ⟨Q, 0, none⟩ (.slice (some ⟨g, 0, none⟩) (n + 1) cap)) Q p (.slice a n cp) g cap n xs base r) := by
  have hQ1 : w1.heap[Q]? = some (.cells #[.slice a n cp] 42 (0, 0)) := (hgrow.block Q (lt_of_block hQ) (fun e => hgQ e.symm)).trans hQ
  have hP1 : w1.heap[p]? = some (.cells (item r (n : Int)) 101 (0, 0)) := (hgrow.block p (lt_of_block hP) (fun e => hgp e.symm)).trans hP
  have hgQ1 : (Value.slice (some ⟨g, 0, none⟩) (n + 1) cap).ownBlock ≠ some Q := own_ne hown hQ1 (by decide)
  refine ⟨cell_of_one hQ1, free_of_one hQ1, ⟨ownsRow_setCell_other hown hgQ1 _, one_setCell hQ1, ?_, ?_, ?_⟩⟩
  · rw [Below.heap_setCell _ _ _ _ (fun e => hQp e.symm)]; exact hP1
  · rcases hat with h | h
    · exact Or.inl h
    · exact Or.inr (by omega)
  · exact ((hF.grown hgrow (fun k hk => Or.inl (Or.inr (Or.inr hk)))).setCell (Or.inl (Or.inl rfl)) _)

set_option maxRecDepth 10000 in
set_option maxHeartbeats 400000 in
theorem push_any (Q p : Nat) (v : Value) (n : Nat) (xs : List Value) (base : Nat) (r x : Int) (w : World)
    (hq : w.heap[Q]? = some (.cells #[v] 42 (0, 0))) (hp : w.heap[p]? = some (.cells (item r x) 101 (0, 0))) (hown : w.ownsRow base 43 1 v n xs) (hbase : base ≤ w.heap.size) (hn : n ≤ 1000000) :
    Calls Try.prog 17 #[.pointer (some ⟨Q, 0, none⟩), .pointer (some ⟨p, 0, none⟩)] w fun e w' => e = .returned (.tuple #[]) ∧ ∃ g cap, Pushed w w' Q p v g cap n xs base r := by
  obtain ⟨a, cp, hv⟩ := own_form hown
  subst hv
  have hta := run_assert p
  have hQp : Q ≠ p := by
    rintro rfl
    rw [hq] at hp
    injection hp with hp
    injection hp with _ h2 _
    exact absurd h2 (by decide)
  have hgQ := own_ne hown hq (by decide)
  have hgp := own_ne hown hp (by decide)
  have c1 := cell_of_one hq
  have f1 := free_of_one hq
  have c2 := item_index hp
  have f2 : w.frozen? ⟨p, 5, none⟩ = false := item_free hp
  obtain ⟨i0, hi, hz0, hz1, hz2⟩ := info_parts info43
  have fr0 : Fr (fun k => k = Q ∨ k = p ∨ (Value.slice a n cp).ownBlock = some k) w ((w.setCell ⟨p, 5, none⟩ (.int .i64 (n : Int))).alloc (.cells #[ptr p] 43)) := ((Fr.refl _ w).setCell (Or.inl (Or.inr (Or.inl rfl))) _).alloc _
  have own0 : ((w.setCell ⟨p, 5, none⟩ (.int .i64 (n : Int))).alloc (.cells #[ptr p] 43)).ownsRow base 43 1 (.slice a n cp) n xs :=
    (ownsRow_setCell_other hown hgp _).alloc _
  have hq0 : ((w.setCell ⟨p, 5, none⟩ (.int .i64 (n : Int))).alloc (.cells #[ptr p] 43)).heap[Q]? = some (.cells #[.slice a n cp] 42 (0, 0)) := by
    rw [Below.heap_alloc _ _ _ (by simp [World.setCell]; exact lt_of_block hq), Below.heap_setCell _ _ _ _ hQp]; exact hq
  have hp0 : ((w.setCell ⟨p, 5, none⟩ (.int .i64 (n : Int))).alloc (.cells #[ptr p] 43)).heap[p]? = some (.cells (item r (n : Int)) 101 (0, 0)) := by
    rw [Below.heap_alloc _ _ _ (by simp [World.setCell]; exact lt_of_block hp)]; exact item_set hp
  have news0 : ∀ j u, [ptr p][j]? = some u → ((w.setCell ⟨p, 5, none⟩ (.int .i64 (n : Int))).alloc (.cells #[ptr p] 43)).cell? ((⟨w.heap.size, 0, none⟩ : Addr).add j) = some u := by
    intro j u hj
    match j, hj with
    | 0, hj =>
      simp at hj
      subst hj
      have := heap_alloc_new (w.setCell ⟨p, 5, none⟩ (.int .i64 (n : Int))) (.cells #[ptr p] 43)
      have hs : (w.setCell ⟨p, 5, none⟩ (.int .i64 (n : Int))).heap.size = w.heap.size := by simp [World.setCell]
      rw [hs] at this
      simpa [Addr.add] using cell_of_one this
  have hsz : ((w.setCell ⟨p, 5, none⟩ (.int .i64 (n : Int))).alloc (.cells #[ptr p] 43)).heap.size = w.heap.size + 1 := by simp [World.setCell]
  have hbs : base ≤ ((w.setCell ⟨p, 5, none⟩ (.int .i64 (n : Int))).alloc (.cells #[ptr p] 43)).heap.size := by rw [hsz]; omega
  have HF : Hid (Fr (fun k => k = Q ∨ k = p ∨ (Value.slice a n cp).ownBlock = some k) w ((w.setCell ⟨p, 5, none⟩ (.int .i64 (n : Int))).alloc (.cells #[ptr p] 43))) := fr0
  have HO : Hid (((w.setCell ⟨p, 5, none⟩ (.int .i64 (n : Int))).alloc (.cells #[ptr p] 43)).ownsRow base 43 1 (.slice a n cp) n xs) := own0
  have HQ : Hid (((w.setCell ⟨p, 5, none⟩ (.int .i64 (n : Int))).alloc (.cells #[ptr p] 43)).heap[Q]? = some (.cells #[.slice a n cp] 42 (0, 0))) := hq0
  have HP : Hid (((w.setCell ⟨p, 5, none⟩ (.int .i64 (n : Int))).alloc (.cells #[ptr p] 43)).heap[p]? = some (.cells (item r (n : Int)) 101 (0, 0))) := hp0
  have HN : Hid (∀ j u, [ptr p][j]? = some u → ((w.setCell ⟨p, 5, none⟩ (.int .i64 (n : Int))).alloc (.cells #[ptr p] 43)).cell? ((⟨w.heap.size, 0, none⟩ : Addr).add j) = some u) := news0
  have HZ : Hid (((w.setCell ⟨p, 5, none⟩ (.int .i64 (n : Int))).alloc (.cells #[ptr p] 43)).heap.size = w.heap.size + 1) := hsz
  have HB : Hid (base ≤ ((w.setCell ⟨p, 5, none⟩ (.int .i64 (n : Int))).alloc (.cells #[ptr p] 43)).heap.size) := hbs
  have HI : Hid (Try.prog.info? 43 = some i0) := hi
  have HZ0 : Hid (i0.zero = some (.pointer none)) := hz0
  have HZ1 : Hid (i0.size = 1) := hz1
  have HZ2 : Hid (i0.bytes = 8) := hz2
  clear fr0 own0 hq0 hp0 news0 hsz hbs hi hz0 hz1 hz2 hq hp hown
  go_enter Try.func17, Try.ntmps17
  go_wp2_with (first
    | (at_builtin; refine wpList_append_lies _ rfl (.tmp 17) (.tmp 19) 42 rfl base 43 i0 (.pointer none) 1 8 Try.underlying42 HI.out HZ0.out HZ1.out HZ2.out rfl (by decide) (.slice a n cp) n xs rfl HO.out ⟨w.heap.size, 0, none⟩ 1 1 [ptr p] rfl rfl HN.out (ptrs_one [p]) (by decide) (by unfold maxLen; omega) (by omega) HB.out (w.heap.size + 1) HZ.out ?_; intro g cap w1 hown1 hgrow1 hat1 hlt1; have HX := push_fin hgQ hgp hQp HF.out HQ.out HP.out hown1 hgrow1 hat1; clear hown1 hgrow1 hat1 hlt1; have c3 := HX.out.1; have f3 := HX.out.2.1)
    | go_in)
  go_end0
  go_wp2
  go_end0
  exact ⟨rfl, _, _, HX.out.2.2⟩
end Go.Proofs.Qxb6613106a.Push
