/-
  The contract of encoding/hex.EncodeToString at this seat's dump, in plain words: written by the kit's lay-shelf and lay-plain for this program, cut to what is used.
-/
import Derived.Shelf.Hex.More
import Derived.Test.Qxb6616883aProg
namespace Go.Proofs
open Go.Shelf
def Try.laysPah39_ren : Go.Shelf.Ren := ⟨fun | 39 => 15 | 41 => 18 | 40 => 19 | n => n, fun | 30 => 32 | 9 => 9 | 3 => 3 | 0 => 0 | 5 => 5 | 46 => 40 | n => n, fun | n => n⟩
theorem Try.laysPah39 : Go.Proofs.Lays.ph39 Try.prog Try.laysPah39_ren := {
  mixed := by kernel_rfl
  f39 := Try.func15.trans (congrArg some (by kernel_rfl))
  f40 := Try.func19.trans (congrArg some (by kernel_rfl))
  f41 := Try.func18.trans (congrArg some (by kernel_rfl))
  t0 := Try.underlying0
  a0 := Try.isAgg0
  z0 := Try.sizeOf0
  v0 := Try.zeroValue0
  t3 := Try.underlying3
  a3 := Try.isAgg3
  z3 := Try.sizeOf3
  v3 := Try.zeroValue3
  t5 := Try.underlying5
  a5 := Try.isAgg5
  z5 := Try.sizeOf5
  v5 := Try.zeroValue5
  t9 := Try.underlying9
  a9 := Try.isAgg9
  z9 := Try.sizeOf9
  v9 := Try.zeroValue9
  t30 := Try.underlying32
  a30 := Try.isAgg32
  z30 := Try.sizeOf32
  v30 := Try.zeroValue32
  t46 := Try.underlying40
  a46 := Try.isAgg40
  z46 := Try.sizeOf40
  v46 := Try.zeroValue40
  info5 := by kernel_rfl }
open Go.RowKit Go.Lib in
theorem Try.hex_EncodeToString_bytes (bs os cs : Nat) (l : List UInt8) (w : World) (hsrc : ∀ i (h : i < l.length), w.cell? ⟨bs, os + i, none⟩ = some (.int .u8 ((l[i]'h).toNat : Int))) (hb : bs < w.heap.size) (hbig : 2 * l.length ≤ 281474976710656) :
    Calls Try.prog 15 #[.slice (some ⟨bs, os, none⟩) l.length cs] w fun e w' => e = .returned (.string ⟨(Hx.encode l).toArray⟩) ∧ Below w.heap.size w w' := Any.hex_EncodeToString_bytes Try.laysPah39 bs os cs l w hsrc hb hbig
end Go.Proofs
