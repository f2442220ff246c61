/-
  THE SHELF's CONTRACT OF encoding/hex.EncodeToString AT THIS DUMP, in plain words (written by the kit's lay-shelf and lay-plain for this program; cut to what the proof uses).
-/
import Derived.Ground.PaProg
import Derived.Shelf.Hex.Lens
import Derived.Shelf.Hex.Encode
import Derived.Test.YbulkahiiFmtProg
namespace Go.Proofs
open Go.Shelf
def Ybaf.laysPah39_ren : Go.Shelf.Ren := ⟨fun | 39 => 11 | 41 => 12 | 40 => 13 | n => n, fun | 30 => 40 | 9 => 9 | 3 => 3 | 0 => 0 | 5 => 5 | 46 => 44 | n => n, fun | n => n⟩
theorem Ybaf.laysPah39 : Go.Proofs.Lays.ph39 Ybaf.prog Ybaf.laysPah39_ren := {
  mixed := by kernel_rfl
  f39 := Ybaf.func11.trans (congrArg some (by kernel_rfl))
  f40 := Ybaf.func13.trans (congrArg some (by kernel_rfl))
  f41 := Ybaf.func12.trans (congrArg some (by kernel_rfl))
  t0 := Ybaf.underlying0
  a0 := Ybaf.isAgg0
  z0 := Ybaf.sizeOf0
  v0 := Ybaf.zeroValue0
  t3 := Ybaf.underlying3
  a3 := Ybaf.isAgg3
  z3 := Ybaf.sizeOf3
  v3 := Ybaf.zeroValue3
  t5 := Ybaf.underlying5
  a5 := Ybaf.isAgg5
  z5 := Ybaf.sizeOf5
  v5 := Ybaf.zeroValue5
  t9 := Ybaf.underlying9
  a9 := Ybaf.isAgg9
  z9 := Ybaf.sizeOf9
  v9 := Ybaf.zeroValue9
  t30 := Ybaf.underlying40
  a30 := Ybaf.isAgg40
  z30 := Ybaf.sizeOf40
  v30 := Ybaf.zeroValue40
  t46 := Ybaf.underlying44
  a46 := Ybaf.isAgg44
  z46 := Ybaf.sizeOf44
  v46 := Ybaf.zeroValue44
  info5 := by kernel_rfl }
open Go.RowKit Go.Lib in
theorem Ybaf.hex_EncodeToString (bs os n cs : Nat) (xs : List Int) (w : World) (hx : xs.length = n) (hr : ∀ i, i < n → 0 ≤ xs.getD i 0 ∧ xs.getD i 0 < 256) (hsrc : ∀ i, i < n → w.cell? ⟨bs, os + i, none⟩ = some (.int .u8 (xs.getD i 0))) (hb : bs < w.heap.size) (hbig : 2 * n ≤ 281474976710656) :
    Calls Ybaf.prog 11 #[.slice (some ⟨bs, os, none⟩) n cs] w fun e w' => e = .returned (.string ⟨(Hx.encode (Lib.bytesOf xs)).toArray⟩) ∧ Below w.heap.size w w' := Any.hex_EncodeToString Ybaf.laysPah39 bs os n cs xs w hx hr hsrc hb hbig
end Go.Proofs
