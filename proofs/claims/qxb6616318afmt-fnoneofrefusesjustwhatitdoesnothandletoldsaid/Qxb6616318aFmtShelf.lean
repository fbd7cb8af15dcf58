/-
  The shelf's contracts of strings.Join and slices.Contains at this dump, in plain words.
-/
import Derived.Shelf.Strings.OnBuilder
import Derived.Shelf.Slices.Turned
import Derived.Test.Qxb6616318aFmtProg
namespace Go.Proofs
open Go.Shelf
def Tryf.lays156_ren : Go.Shelf.Ren := ⟨fun | 156 => 12 | 165 => 15 | 166 => 16 | 169 => 17 | 240 => 18 | 241 => 19 | 276 => 20 | 277 => 21 | n => n, fun | 31 => 22 | 9 => 9 | 3 => 3 | 4 => 4 | 0 => 0 | 20 => 20 | 72 => 40 | 76 => 42 | 70 => 37 | 37 => 38 | 75 => 25 | 127 => 48 | 164 => 49 | 5 => 5 | 80 => 44 | n => n, fun | n => n⟩
theorem Tryf.lays156 : Go.Proofs.Lays.n156 Tryf.prog Tryf.lays156_ren := {
  mixed := by kernel_rfl
  f156 := Tryf.func12.trans (congrArg some (by kernel_rfl))
  f165 := Tryf.func15.trans (congrArg some (by kernel_rfl))
  f166 := Tryf.func16.trans (congrArg some (by kernel_rfl))
  f169 := Tryf.func17.trans (congrArg some (by kernel_rfl))
  f240 := Tryf.func18.trans (congrArg some (by kernel_rfl))
  f241 := Tryf.func19.trans (congrArg some (by kernel_rfl))
  f276 := Tryf.func20.trans (congrArg some (by kernel_rfl))
  f277 := Tryf.func21.trans (congrArg some (by kernel_rfl))
  t0 := Tryf.underlying0
  a0 := Tryf.isAgg0
  z0 := Tryf.sizeOf0
  v0 := Tryf.zeroValue0
  t3 := Tryf.underlying3
  a3 := Tryf.isAgg3
  z3 := Tryf.sizeOf3
  v3 := Tryf.zeroValue3
  t4 := Tryf.underlying4
  a4 := Tryf.isAgg4
  z4 := Tryf.sizeOf4
  v4 := Tryf.zeroValue4
  t9 := Tryf.underlying9
  a9 := Tryf.isAgg9
  z9 := Tryf.sizeOf9
  v9 := Tryf.zeroValue9
  t20 := Tryf.underlying20
  a20 := Tryf.isAgg20
  z20 := Tryf.sizeOf20
  v20 := Tryf.zeroValue20
  t31 := Tryf.underlying22
  a31 := Tryf.isAgg22
  z31 := Tryf.sizeOf22
  v31 := Tryf.zeroValue22
  t37 := Tryf.underlying38
  a37 := Tryf.isAgg38
  z37 := Tryf.sizeOf38
  v37 := Tryf.zeroValue38
  t70 := Tryf.underlying37
  a70 := Tryf.isAgg37
  z70 := Tryf.sizeOf37
  v70 := Tryf.zeroValue37
  t72 := Tryf.underlying40
  a72 := Tryf.isAgg40
  z72 := Tryf.sizeOf40
  v72 := Tryf.zeroValue40
  t75 := Tryf.underlying25
  a75 := Tryf.isAgg25
  z75 := Tryf.sizeOf25
  v75 := Tryf.zeroValue25
  t76 := Tryf.underlying42
  a76 := Tryf.isAgg42
  z76 := Tryf.sizeOf42
  v76 := Tryf.zeroValue42
  t127 := Tryf.underlying48
  a127 := Tryf.isAgg48
  z127 := Tryf.sizeOf48
  v127 := Tryf.zeroValue48
  t164 := Tryf.underlying49
  a164 := Tryf.isAgg49
  z164 := Tryf.sizeOf49
  v164 := Tryf.zeroValue49 }
theorem Tryf.Builder_Extra_156 : Builder.Extra Tryf.prog Tryf.lays156_ren := {
  sizeBuilder := by kernel_rfl
  liesBuilder := by kernel_rfl
  t5 := Tryf.underlying5
  a5 := Tryf.isAgg5
  z5 := Tryf.sizeOf5
  v5 := Tryf.zeroValue5
  infoByte := by kernel_rfl
  cellsByte := by kernel_rfl
  sizeByte := by kernel_rfl
  neB5 := by decide }
open Go.RowKit in
theorem Tryf.strings_Join_none (a : Option Addr) (c : Nat) (sep : ByteArray) (w : World) :
    Calls Tryf.prog 12 #[.slice a 0 c, .string sep] w fun e w' => e = .returned (.string ⟨#[]⟩) ∧ w' = w := Any.strings_Join_none Tryf.lays156 Tryf.Builder_Extra_156 a c sep w
open Go.RowKit in
theorem Tryf.strings_Join (bk o c : Nat) (xs : List ByteArray) (sep : ByteArray) (w : World) (hcells : ∀ (j : Nat) x, xs[j]? = some x → w.cell? ⟨bk, o + j, none⟩ = some (.string x)) (hbk : bk < w.heap.size) (hN : xs.length ≤ 140737488355328) (hcap : xs.length ≤ c) (hlen : (Lib.join (xs.map (·.data.toList)) sep.data.toList).length ≤ 140737488355328) :
    Calls Tryf.prog 12 #[.slice (some ⟨bk, o, none⟩) xs.length c, .string sep] w fun e w' => e = .returned (.string ⟨(Lib.join (xs.map (·.data.toList)) sep.data.toList).toArray⟩) ∧ Below w.heap.size w w' := Any.strings_Join Tryf.lays156 Tryf.Builder_Extra_156 bk o c xs sep w hcells hbk hN hcap hlen
def Tryf.lays110_ren : Go.Shelf.Ren := ⟨fun | 110 => 8 | 109 => 10 | n => n, fun | 31 => 22 | 9 => 9 | 4 => 4 | 3 => 3 | 0 => 0 | n => n, fun | n => n⟩
theorem Tryf.lays110 : Go.Proofs.Lays.n110 Tryf.prog Tryf.lays110_ren := {
  mixed := by kernel_rfl
  f109 := Tryf.func10.trans (congrArg some (by kernel_rfl))
  f110 := Tryf.func8.trans (congrArg some (by kernel_rfl))
  t0 := Tryf.underlying0
  a0 := Tryf.isAgg0
  z0 := Tryf.sizeOf0
  v0 := Tryf.zeroValue0
  t3 := Tryf.underlying3
  a3 := Tryf.isAgg3
  z3 := Tryf.sizeOf3
  v3 := Tryf.zeroValue3
  t4 := Tryf.underlying4
  a4 := Tryf.isAgg4
  z4 := Tryf.sizeOf4
  v4 := Tryf.zeroValue4
  t9 := Tryf.underlying9
  a9 := Tryf.isAgg9
  z9 := Tryf.sizeOf9
  v9 := Tryf.zeroValue9
  t31 := Tryf.underlying22
  a31 := Tryf.isAgg22
  z31 := Tryf.sizeOf22
  v31 := Tryf.zeroValue22 }
open Go.Lib in
theorem Tryf.slices_Contains_string (b off n c : Nat) (zs : List ByteArray) (x : ByteArray) (w : World) (hz : n ≤ zs.length) (hbig : n ≤ 9223372036854775807) (hc : ∀ j, j < zs.length → w.cell? ⟨b, off + j, none⟩ = some (.string (zs.getD j ByteArray.empty))) :
    Calls Tryf.prog 8 #[.slice (some ⟨b, off, none⟩) n c, .string x] w fun e w' => e = .returned (.bool (Lib.containsS (zs.take n) x)) ∧ w' = w := Any.slices_Contains_string Tryf.lays110 b off n c zs x w hz hbig hc
open Go.Lib in
theorem Tryf.slices_Contains_string_empty (a : Option Addr) (c : Nat) (x : ByteArray) (w : World) :
    Calls Tryf.prog 8 #[.slice a 0 c, .string x] w fun e w' => e = .returned (.bool false) ∧ w' = w := Any.slices_Contains_string_empty Tryf.lays110 a c x w
end Go.Proofs
