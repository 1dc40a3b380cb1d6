import Derived.Test.Qxb6613028aParts
import Derived.Deep.QuietTactic
import Derived.BigQuiet
namespace Go.Proofs.Qxb6613028a.Parts
open Go.RowKit

theorem atd_end (s : ByteArray) (b : Nat) (w : World) (h0 : w.cell? ⟨b, 0, none⟩ = some (.string s)) (h1 : w.cell? ⟨b, 1, none⟩ = some (.int .i64 s.size)) :
    Calls Try.prog 9 #[.pointer (some ⟨b, 0, none⟩)] w fun e w' => e = .returned (.bool false) ∧ ∃ n, w' = w.drewN n := by
  have hd : decide ((s.size : Int) < (s.size : Int)) = false := decide_eq_false (by omega)
  go_enter Try.func9, Try.ntmps9
  go_wp2
  go_quiet (fail)
  go_wp2
  go_ret
  exact ⟨rfl, _, rfl⟩

theorem atd_low (s : ByteArray) (k b : Nat) (w : World) (hk : k < s.size) (hc : s[k].toNat < 48) (h0 : w.cell? ⟨b, 0, none⟩ = some (.string s)) (h1 : w.cell? ⟨b, 1, none⟩ = some (.int .i64 k)) :
    Calls Try.prog 9 #[.pointer (some ⟨b, 0, none⟩)] w fun e w' => e = .returned (.bool false) ∧ ∃ n, w' = w.drewN n := by
  have hd : (k : Int) < (s.size : Int) := by omega
  have hd2 : decide ((48 : Int) ≤ (s[k].toNat : Int)) = false := decide_eq_false (by omega)
  go_enter Try.func9, Try.ntmps9
  go_wp2
  go_quiet (fail)
  go_wp2
  go_ret
  exact ⟨rfl, _, rfl⟩

theorem atd_mid (s : ByteArray) (k b : Nat) (w : World) (hk : k < s.size) (hc : 48 ≤ s[k].toNat) (hc' : s[k].toNat ≤ 57) (h0 : w.cell? ⟨b, 0, none⟩ = some (.string s)) (h1 : w.cell? ⟨b, 1, none⟩ = some (.int .i64 k)) :
    Calls Try.prog 9 #[.pointer (some ⟨b, 0, none⟩)] w fun e w' => e = .returned (.bool true) ∧ ∃ n, w' = w.drewN n := by
  have hd : (k : Int) < (s.size : Int) := by omega
  have hd2 : ((48 : Int) ≤ (s[k].toNat : Int)) := by omega
  have hd3 : ((s[k].toNat : Int) ≤ 57) := by omega
  go_enter Try.func9, Try.ntmps9
  go_wp2
  go_quiet (fail)
  go_wp2
  go_ret
  exact ⟨rfl, _, rfl⟩

theorem atd_high (s : ByteArray) (k b : Nat) (w : World) (hk : k < s.size) (hc : 57 < s[k].toNat) (h0 : w.cell? ⟨b, 0, none⟩ = some (.string s)) (h1 : w.cell? ⟨b, 1, none⟩ = some (.int .i64 k)) :
    Calls Try.prog 9 #[.pointer (some ⟨b, 0, none⟩)] w fun e w' => e = .returned (.bool false) ∧ ∃ n, w' = w.drewN n := by
  have hd : (k : Int) < (s.size : Int) := by omega
  have hd2 : ((48 : Int) ≤ (s[k].toNat : Int)) := by omega
  have hd3 : decide ((s[k].toNat : Int) ≤ 57) = false := decide_eq_false (by omega)
  go_enter Try.func9, Try.ntmps9
  go_wp2
  go_quiet (fail)
  go_wp2
  go_ret
  exact ⟨rfl, _, rfl⟩
end Go.Proofs.Qxb6613028a.Parts
