/-
  THE LIBRARY CONTRACTS OF strings.Join AND slices.Reverse AT THIS DUMP, as the shelf writes them in plain words (lay-shelf.mjs, then lay-plain.mjs); cut to those two.
-/
import Derived.Shelf.Strings.OnBuilder
import Derived.Ground.Names2Prog
import Derived.Shelf.Slices.ReverseS
import Derived.Shelf.Slices.Cells
import Derived.Test.Qxb6603331aProg
namespace Go.Proofs
open Go.Shelf
def Try.lays156_ren : Go.Shelf.Ren := ⟨fun | 156 => 32 | 165 => 33 | 166 => 34 | 169 => 35 | 240 => 36 | 241 => 37 | 276 => 38 | 277 => 39 | n => n, fun | 31 => 57 | 9 => 9 | 3 => 3 | 4 => 4 | 0 => 0 | 20 => 20 | 72 => 64 | 76 => 68 | 70 => 62 | 37 => 22 | 75 => 67 | 127 => 70 | 164 => 71 | 5 => 5 | 80 => 37 | n => n, fun | n => n⟩
theorem Try.lays156 : Go.Proofs.Lays.n156 Try.prog Try.lays156_ren := {
  mixed := by kernel_rfl
  f156 := Try.func32.trans (congrArg some (by kernel_rfl))
  f165 := Try.func33.trans (congrArg some (by kernel_rfl))
  f166 := Try.func34.trans (congrArg some (by kernel_rfl))
  f169 := Try.func35.trans (congrArg some (by kernel_rfl))
  f240 := Try.func36.trans (congrArg some (by kernel_rfl))
  f241 := Try.func37.trans (congrArg some (by kernel_rfl))
  f276 := Try.func38.trans (congrArg some (by kernel_rfl))
  f277 := Try.func39.trans (congrArg some (by kernel_rfl))
  t0 := Try.underlying0
  a0 := Try.isAgg0
  z0 := Try.sizeOf0
  v0 := Try.zeroValue0
  t3 := Try.underlying3
  a3 := Try.isAgg3
  z3 := Try.sizeOf3
  v3 := Try.zeroValue3
  t4 := Try.underlying4
  a4 := Try.isAgg4
  z4 := Try.sizeOf4
  v4 := Try.zeroValue4
  t9 := Try.underlying9
  a9 := Try.isAgg9
  z9 := Try.sizeOf9
  v9 := Try.zeroValue9
  t20 := Try.underlying20
  a20 := Try.isAgg20
  z20 := Try.sizeOf20
  v20 := Try.zeroValue20
  t31 := Try.underlying57
  a31 := Try.isAgg57
  z31 := Try.sizeOf57
  v31 := Try.zeroValue57
  t37 := Try.underlying22
  a37 := Try.isAgg22
  z37 := Try.sizeOf22
  v37 := Try.zeroValue22
  t70 := Try.underlying62
  a70 := Try.isAgg62
  z70 := Try.sizeOf62
  v70 := Try.zeroValue62
  t72 := Try.underlying64
  a72 := Try.isAgg64
  z72 := Try.sizeOf64
  v72 := Try.zeroValue64
  t75 := Try.underlying67
  a75 := Try.isAgg67
  z75 := Try.sizeOf67
  v75 := Try.zeroValue67
  t76 := Try.underlying68
  a76 := Try.isAgg68
  z76 := Try.sizeOf68
  v76 := Try.zeroValue68
  t127 := Try.underlying70
  a127 := Try.isAgg70
  z127 := Try.sizeOf70
  v127 := Try.zeroValue70
  t164 := Try.underlying71
  a164 := Try.isAgg71
  z164 := Try.sizeOf71
  v164 := Try.zeroValue71 }
theorem Try.Builder_Extra_156 : Builder.Extra Try.prog Try.lays156_ren := {
  sizeBuilder := by kernel_rfl
  liesBuilder := by kernel_rfl
  t5 := Try.underlying5
  a5 := Try.isAgg5
  z5 := Try.sizeOf5
  v5 := Try.zeroValue5
  infoByte := by kernel_rfl
  cellsByte := by kernel_rfl
  sizeByte := by kernel_rfl
  neB5 := by decide }
open Go.RowKit in
theorem Try.strings_Join_none (a : Option Addr) (c : Nat) (sep : ByteArray) (w : World) :
    Calls Try.prog 32 #[.slice a 0 c, .string sep] w fun e w' => e = .returned (.string ⟨#[]⟩) ∧ w' = w := Any.strings_Join_none Try.lays156 Try.Builder_Extra_156 a c sep w
open Go.RowKit in
theorem Try.strings_Join (bk o c : Nat) (xs : List ByteArray) (sep : ByteArray) (w : World) (hcells : ∀ (j : Nat) x, xs[j]? = some x → w.cell? ⟨bk, o + j, none⟩ = some (.string x)) (hbk : bk < w.heap.size) (hN : xs.length ≤ 140737488355328) (hcap : xs.length ≤ c) (hlen : (Lib.join (xs.map (·.data.toList)) sep.data.toList).length ≤ 140737488355328) :
    Calls Try.prog 32 #[.slice (some ⟨bk, o, none⟩) xs.length c, .string sep] w fun e w' => e = .returned (.string ⟨(Lib.join (xs.map (·.data.toList)) sep.data.toList).toArray⟩) ∧ Below w.heap.size w w' := Any.strings_Join Try.lays156 Try.Builder_Extra_156 bk o c xs sep w hcells hbk hN hcap hlen
def Try.laysNm217_ren : Go.Shelf.Ren := ⟨fun | 17 => 31 | n => n, fun | 24 => 57 | 9 => 9 | 3 => 3 | 4 => 4 | 0 => 0 | n => n, fun | n => n⟩
theorem Try.laysNm217 : Go.Proofs.Lays2.n17 Try.prog Try.laysNm217_ren := {
  mixed := by kernel_rfl
  f17 := Try.func31.trans (congrArg some (by kernel_rfl))
  t0 := Try.underlying0
  a0 := Try.isAgg0
  z0 := Try.sizeOf0
  v0 := Try.zeroValue0
  t3 := Try.underlying3
  a3 := Try.isAgg3
  z3 := Try.sizeOf3
  v3 := Try.zeroValue3
  t4 := Try.underlying4
  a4 := Try.isAgg4
  z4 := Try.sizeOf4
  v4 := Try.zeroValue4
  t9 := Try.underlying9
  a9 := Try.isAgg9
  z9 := Try.sizeOf9
  v9 := Try.zeroValue9
  t24 := Try.underlying57
  a24 := Try.isAgg57
  z24 := Try.sizeOf57
  v24 := Try.zeroValue57 }
open Go.RowKit Go.Lib Go.Sort in
theorem Try.slices_Reverse_string_empty (a : Option Addr) (cap : Nat) (w : World) :
    Calls Try.prog 31 #[.slice a 0 cap] w fun e w' => e = .returned (.tuple #[]) ∧ w' = w := Any.slices_Reverse_string_empty Try.laysNm217 a cap w
open Go.RowKit Go.Lib Go.Sort in
theorem Try.slices_Reverse_string_cells (b off n c : Nat) (Sx : Nat → ByteArray) (w : World) (hbig : n ≤ 9223372036854775807) (hc : ∀ i, i < n → w.cell? ⟨b, off + i, none⟩ = some (.string (Sx i))) (hf : ∀ j, j < n → w.frozen? ⟨b, off + j, none⟩ = false) :
    Calls Try.prog 31 #[.slice (some ⟨b, off, none⟩) n c] w fun e w' => e = .returned (.tuple #[]) ∧ ∃ q, w' = (w.drewN q).setCells b off ((Lib.strsOf Sx n).reverse.map encStr) := Any.slices_Reverse_string_cells Try.laysNm217 b off n c Sx w hbig hc hf
end Go.Proofs
