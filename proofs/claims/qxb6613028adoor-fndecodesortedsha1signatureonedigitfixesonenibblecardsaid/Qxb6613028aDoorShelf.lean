/- The contracts of the kit for encoding/hex.Decode and EncodedLen, laid at this dump by the kit (lay-shelf.mjs, lay-plain.mjs). -/
import Derived.Ground.PaProg
import Derived.Shelf.Hex.Tagged
import Derived.Shelf.Hex.Lens
import Derived.Test.Qxb6613028aDoorProg
namespace Go.Proofs
open Go.Shelf
def Tryd.laysPa44_ren : Go.Shelf.Ren := ⟨fun | 44 => 10 | n => n, fun | 30 => 23 | 3 => 3 | 35 => 34 | 4 => 4 | 0 => 0 | 5 => 5 | 9 => 9 | 47 => 37 | 46 => 29 | 45 => 41 | n => n, fun | 0 => 0 | n => n⟩
theorem Tryd.laysPa44 : Go.Proofs.Lays.p44 Tryd.prog Tryd.laysPa44_ren := {
  mixed := by kernel_rfl
  f44 := Tryd.func10.trans (congrArg some (by kernel_rfl))
  t0 := Tryd.underlying0
  a0 := Tryd.isAgg0
  z0 := Tryd.sizeOf0
  v0 := Tryd.zeroValue0
  t3 := Tryd.underlying3
  a3 := Tryd.isAgg3
  z3 := Tryd.sizeOf3
  v3 := Tryd.zeroValue3
  t4 := Tryd.underlying4
  a4 := Tryd.isAgg4
  z4 := Tryd.sizeOf4
  v4 := Tryd.zeroValue4
  t5 := Tryd.underlying5
  a5 := Tryd.isAgg5
  z5 := Tryd.sizeOf5
  v5 := Tryd.zeroValue5
  t9 := Tryd.underlying9
  a9 := Tryd.isAgg9
  z9 := Tryd.sizeOf9
  v9 := Tryd.zeroValue9
  t30 := Tryd.underlying23
  a30 := Tryd.isAgg23
  z30 := Tryd.sizeOf23
  v30 := Tryd.zeroValue23
  t35 := Tryd.underlying34
  a35 := Tryd.isAgg34
  z35 := Tryd.sizeOf34
  v35 := Tryd.zeroValue34
  t45 := Tryd.underlying41
  a45 := Tryd.isAgg41
  z45 := Tryd.sizeOf41
  v45 := Tryd.zeroValue41
  t46 := Tryd.underlying29
  a46 := Tryd.isAgg29
  z46 := Tryd.sizeOf29
  v46 := Tryd.zeroValue29
  t47 := Tryd.underlying37
  a47 := Tryd.isAgg37
  z47 := Tryd.sizeOf37
  v47 := Tryd.zeroValue37
  g0 := by kernel_rfl }
open Go.RowKit Go.Lib in
theorem Tryd.hex_Decode_tag (T : TypeId) (bd od nd cd N : Nat) (f : Nat → Value) (bs os n cs : Nat) (xs : List Int) (w : World) (ev : Value) (hx : xs.length = n) (hr : ∀ i, i < n → 0 ≤ xs.getD i 0 ∧ xs.getD i 0 < 256) (hsrc : ∀ i, i < n → w.cell? ⟨bs, os + i, none⟩ = some (.int .u8 (xs.getD i 0))) (hrow : w.rowIs bd T N f) (hfit : od + nd ≤ N) (hlen : n / 2 ≤ nd) (hne : bd ≠ bs) (hbig : n ≤ 4611686018427387903) (hE : w.cell? ⟨0, 0, none⟩ = some ev) (hgb : 0 ≠ bd) :
    Calls Tryd.prog 10 #[.slice (some ⟨bd, od, none⟩) nd cd, .slice (some ⟨bs, os, none⟩) n cs] w fun e w' =>
      e = .returned (.tuple #[.int .i64 ((Hx.decode (Lib.bytesOf xs)).1.length : Int), Hx.errVal 37 ev (Hx.decode (Lib.bytesOf xs)).2]) ∧ w'.rowIs bd T N (Hx.rowP f od (Hx.decode (Lib.bytesOf xs)).1) ∧ w.grownBy w' (some bd) := Any.hex_Decode_tag Tryd.laysPa44 T bd od nd cd N f bs os n cs xs w ev hx hr hsrc hrow hfit hlen hne hbig hE hgb
def Tryd.laysPa41_ren : Go.Shelf.Ren := ⟨fun | 41 => 9 | n => n, fun | 3 => 3 | n => n, fun | n => n⟩
theorem Tryd.laysPa41 : Go.Proofs.Lays.p41 Tryd.prog Tryd.laysPa41_ren := {
  mixed := by kernel_rfl
  f41 := Tryd.func9.trans (congrArg some (by kernel_rfl))
  t3 := Tryd.underlying3
  a3 := Tryd.isAgg3
  z3 := Tryd.sizeOf3
  v3 := Tryd.zeroValue3 }
open Go.RowKit Go.Lib in
theorem Tryd.hex_EncodedLen (n : Int) (h0 : 0 ≤ n) (h1 : n < 4611686018427387904) (w : World) :
    Calls Tryd.prog 9 #[.int .i64 n] w fun e w' => e = .returned (.int .i64 (n * 2)) ∧ w' = w := Any.hex_EncodedLen Tryd.laysPa41 n h0 h1 w
end Go.Proofs
