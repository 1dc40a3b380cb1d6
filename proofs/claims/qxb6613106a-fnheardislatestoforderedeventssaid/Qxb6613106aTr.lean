import Derived.Test.Qxb6613106aEv
namespace Go.Proofs.Qxb6613106a.Tm
open Go.RowKit Qfr

theorem z91size : Try.zeroCells91.size = 65 := by kernel_rfl
theorem z91s : Try.zeroCells91[58]? = some (.slice none 0 0) := by kernel_rfl

/-- a transfer updated at u -/
abbrev tr0 (Z : Array Value) (u : Int) : Array Value := ((Z.setIfInBounds 62 (.int .u64 (u % 1000000000))).setIfInBounds 63 (.int .i64 (u / 1000000000))).setIfInBounds 64 (.pointer none)
/-- the same, with a list of events -/
abbrev trs (Z : Array Value) (u : Int) (v : Value) : Array Value := (tr0 Z u).setIfInBounds 58 v

theorem tr_at (u : Int) (v : Value) (w : World) : TrAt (w.alloc (.cells (trs Try.zeroCells91 u v) 91)) w.heap.size u v := by
  have hg := heap_alloc_new w (.cells (trs Try.zeroCells91 u v) 91)
  have hz := z91size
  refine ⟨?_, ?_, ?_, ?_⟩ <;> rw [cell_of_row _ _ _ _ _ _ hg] <;> simp [hz]
theorem tr_at0 (u : Int) (w : World) : TrAt (w.alloc (.cells (tr0 Try.zeroCells91 u) 91)) w.heap.size u (.slice none 0 0) := by
  have hg := heap_alloc_new w (.cells (tr0 Try.zeroCells91 u) 91)
  have hz := z91size
  have hs : Try.zeroCells91[58]'(by omega) = .slice none 0 0 := (Array.getElem?_eq_some_iff.1 z91s).2
  refine ⟨?_, ?_, ?_, ?_⟩ <;> rw [cell_of_row _ _ _ _ _ _ hg]
  · simp [hz, hs]
  · simp [hz]
  · simp [hz]
  · simp [hz]

/-- a time in a block -/
structure TB (w : World) (b : Nat) (d : Int) : Prop where
  c0 : w.cell? ⟨b, 0, none⟩ = some (.int .u64 (d % 1000000000))
  c1 : w.cell? ⟨b, 1, none⟩ = some (.int .i64 (d / 1000000000))
  c2 : w.cell? ⟨b, 2, none⟩ = some (.pointer none)
theorem TB.keep {wa wb : World} {b : Nat} {d : Int} (h : TB wa b d) (hb : Below wa.heap.size wa wb) : TB wb b d := ⟨below_keeps hb h.c0, below_keeps hb h.c1, below_keeps hb h.c2⟩
theorem TB.one {w : World} {b : Nat} {d : Int} (h : TB w b d) (o1 : Obj) : TB (w.alloc o1) b d := ⟨cell1 h.c0 o1, cell1 h.c1 o1, cell1 h.c2 o1⟩
theorem TB.new (w : World) (d : Int) : TB (w.alloc (.cells (tcx d) 56)) w.heap.size d := by
  obtain ⟨a, b, c⟩ := tm_cells (heap_alloc_new w (.cells (tcx d) 56))
  exact ⟨a, b, c⟩

theorem F1.one {w wa : World} {U Rb g k : Nat} {u r : Int} (h : F1 w wa U Rb g k u r) (o : Obj) : F1 w (wa.alloc o) U Rb g k u r :=
  h.keep ((Below.refl _ wa).alloc (Nat.le_refl _) o)

/-- ONE: the transfer with the whole list -/
theorem heardA {w w4 : World} {U Rb g k cap : Nat} {u r d : Int} (hd : (if u < r then r else u) = d) (hk : k ≤ 131072) (h : F1 w w4 U Rb g k u r) :
    Calls Try.prog 23 #[.pointer (some ⟨w4.heap.size + 1, 0, none⟩)] ((w4.alloc (.cells (tcx d) 56)).alloc (.cells (trs Try.zeroCells91 u (.slice (some ⟨g, 0, none⟩) (k + 1) cap)) 91))
      fun e w' => e = .returned (.agg (tcx d)) ∧ F1 w w' U Rb g k u r ∧ TB w' w4.heap.size d := by
  have hA := (h.one (.cells (tcx d) 56)).one (.cells (trs Try.zeroCells91 u (.slice (some ⟨g, 0, none⟩) (k + 1) cap)) 91)
  have hT := (TB.new w4 d).one (.cells (trs Try.zeroCells91 u (.slice (some ⟨g, 0, none⟩) (k + 1) cap)) 91)
  have hc := tr_at u (.slice (some ⟨g, 0, none⟩) (k + 1) cap) (w4.alloc (.cells (tcx d) 56))
  rw [World.size_alloc] at hc
  refine (heard_some (w4.heap.size + 1) g k cap u r _ (by omega) hc hA.ce.1 hA.ce.2.1 hA.ce.2.2).mono ?_
  rintro e w' ⟨he, hb⟩
  rw [hd] at he
  exact ⟨he, hA.keep hb, hT.keep hb⟩

/-- TWO: the transfer with the one event alone -/
theorem heardB {w w6 : World} {U Rb g k b4 : Nat} {u r d : Int} (hd : (if u < r then r else u) = d) (h : F1 w w6 U Rb g k u r) (h4 : TB w6 b4 d) :
    Calls Try.prog 23 #[.pointer (some ⟨w6.heap.size + 1 + 1, 0, none⟩)] (((w6.alloc (.cells (tcx d) 56)).alloc (.cells #[.string ⟨#[]⟩, .string ⟨#[]⟩, .int .u64 (r % 1000000000), .int .i64 (r / 1000000000), .pointer none] 61)).alloc (.cells (trs Try.zeroCells91 u (.slice (some ⟨w6.heap.size + 1, 0, none⟩) 1 1)) 91))
      fun e w' => e = .returned (.agg (tcx d)) ∧ F1 w w' U Rb g k u r ∧ TB w' b4 d ∧ TB w' w6.heap.size d := by
  have hA := ((h.one (.cells (tcx d) 56)).one (.cells #[.string ⟨#[]⟩, .string ⟨#[]⟩, .int .u64 (r % 1000000000), .int .i64 (r / 1000000000), .pointer none] 61)).one (.cells (trs Try.zeroCells91 u (.slice (some ⟨w6.heap.size + 1, 0, none⟩) 1 1)) 91)
  have h4' := ((h4.one (.cells (tcx d) 56)).one (.cells #[.string ⟨#[]⟩, .string ⟨#[]⟩, .int .u64 (r % 1000000000), .int .i64 (r / 1000000000), .pointer none] 61)).one (.cells (trs Try.zeroCells91 u (.slice (some ⟨w6.heap.size + 1, 0, none⟩) 1 1)) 91)
  have hT := ((TB.new w6 d).one (.cells #[.string ⟨#[]⟩, .string ⟨#[]⟩, .int .u64 (r % 1000000000), .int .i64 (r / 1000000000), .pointer none] 61)).one (.cells (trs Try.zeroCells91 u (.slice (some ⟨w6.heap.size + 1, 0, none⟩) 1 1)) 91)
  have hc := tr_at u (.slice (some ⟨w6.heap.size + 1, 0, none⟩) 1 1) ((w6.alloc (.cells (tcx d) 56)).alloc (.cells #[.string ⟨#[]⟩, .string ⟨#[]⟩, .int .u64 (r % 1000000000), .int .i64 (r / 1000000000), .pointer none] 61))
  rw [World.size_alloc, World.size_alloc] at hc
  have hn := news61 (W := w6.alloc (.cells (tcx d) 56)) (N := w6.heap.size + 1) (by simp) r
  have e0 := cell1 (hn 2 _ rfl) (.cells (trs Try.zeroCells91 u (.slice (some ⟨w6.heap.size + 1, 0, none⟩) 1 1)) 91)
  have e1 := cell1 (hn 3 _ rfl) (.cells (trs Try.zeroCells91 u (.slice (some ⟨w6.heap.size + 1, 0, none⟩) 1 1)) 91)
  have e2 := cell1 (hn 4 _ rfl) (.cells (trs Try.zeroCells91 u (.slice (some ⟨w6.heap.size + 1, 0, none⟩) 1 1)) 91)
  refine (heard_some (w6.heap.size + 1 + 1) (w6.heap.size + 1) 0 1 u r _ (by omega) hc ?_ ?_ ?_).mono ?_
  · simpa [Addr.add] using e0
  · simpa [Addr.add] using e1
  · simpa [Addr.add] using e2
  rintro e w' ⟨he, hb⟩
  rw [hd] at he
  exact ⟨he, hA.keep hb, h4'.keep hb, hT.keep hb⟩

/-- THREE: the transfer with no event -/
theorem heardC {w w8 : World} {U Rb g k b4 b6 : Nat} {u r d : Int} (h : F1 w w8 U Rb g k u r) (h4 : TB w8 b4 d) (h6 : TB w8 b6 d) :
    Calls Try.prog 23 #[.pointer (some ⟨w8.heap.size + 1, 0, none⟩)] ((w8.alloc (.cells (tcx d) 56)).alloc (.cells (tr0 Try.zeroCells91 u) 91))
      fun e w' => e = .returned (.agg (tcx u)) ∧ F1 w w' U Rb g k u r ∧ TB w' b4 d ∧ TB w' b6 d ∧ TB w' w8.heap.size d := by
  have hA := (h.one (.cells (tcx d) 56)).one (.cells (tr0 Try.zeroCells91 u) 91)
  have h4' := (h4.one (.cells (tcx d) 56)).one (.cells (tr0 Try.zeroCells91 u) 91)
  have h6' := (h6.one (.cells (tcx d) 56)).one (.cells (tr0 Try.zeroCells91 u) 91)
  have hT := (TB.new w8 d).one (.cells (tr0 Try.zeroCells91 u) 91)
  have hc := tr_at0 u (w8.alloc (.cells (tcx d) 56))
  rw [World.size_alloc] at hc
  refine (heard_none (w8.heap.size + 1) 0 none u _ hc).mono ?_
  rintro e w' ⟨he, hb⟩
  exact ⟨he, hA.keep hb, h4'.keep hb, h6'.keep hb, hT.keep hb⟩

theorem equal_same (d : Int) (w : World) :
    Calls Try.prog 24 #[.agg (tcx d), .agg (tcx d)] w fun e w' => e = .returned (.bool true) ∧ w' = (w.alloc (.cells (tcx d) 56)).alloc (.cells (tcx d) 56) := by
  refine (equal_any d d w).mono ?_
  rintro e w' ⟨rfl, rfl⟩
  exact ⟨by simp, rfl⟩
end Go.Proofs.Qxb6613106a.Tm
