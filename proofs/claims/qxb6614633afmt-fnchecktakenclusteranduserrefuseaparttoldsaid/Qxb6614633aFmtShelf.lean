/-
  The shelf's contract of strings.Join at this dump, in plain words (laid by the kit's tools for this program; only what strings.Join wants is kept).
-/
import Derived.Shelf.Strings.OnBuilder
import Derived.Test.Qxb6614633aFmtProg
namespace Go.Proofs
open Go.Shelf
def Tryf.lays156_ren : Go.Shelf.Ren := ⟨fun | 156 => 12 | 165 => 14 | 166 => 15 | 169 => 16 | 240 => 17 | 241 => 18 | 276 => 19 | 277 => 20 | n => n, fun | 31 => 36 | 9 => 9 | 3 => 3 | 4 => 4 | 0 => 0 | 20 => 20 | 72 => 48 | 76 => 50 | 70 => 45 | 37 => 46 | 75 => 28 | 127 => 56 | 164 => 57 | 5 => 5 | 80 => 52 | n => n, fun | n => n⟩
theorem Tryf.lays156 : Go.Proofs.Lays.n156 Tryf.prog Tryf.lays156_ren := {
  mixed := by kernel_rfl
  f156 := Tryf.func12.trans (congrArg some (by kernel_rfl))
  f165 := Tryf.func14.trans (congrArg some (by kernel_rfl))
  f166 := Tryf.func15.trans (congrArg some (by kernel_rfl))
  f169 := Tryf.func16.trans (congrArg some (by kernel_rfl))
  f240 := Tryf.func17.trans (congrArg some (by kernel_rfl))
  f241 := Tryf.func18.trans (congrArg some (by kernel_rfl))
  f276 := Tryf.func19.trans (congrArg some (by kernel_rfl))
  f277 := Tryf.func20.trans (congrArg some (by kernel_rfl))
  t0 := Tryf.underlying0
  a0 := Tryf.isAgg0
  z0 := Tryf.sizeOf0
  v0 := Tryf.zeroValue0
  t3 := Tryf.underlying3
  a3 := Tryf.isAgg3
  z3 := Tryf.sizeOf3
  v3 := Tryf.zeroValue3
  t4 := Tryf.underlying4
  a4 := Tryf.isAgg4
  z4 := Tryf.sizeOf4
  v4 := Tryf.zeroValue4
  t9 := Tryf.underlying9
  a9 := Tryf.isAgg9
  z9 := Tryf.sizeOf9
  v9 := Tryf.zeroValue9
  t20 := Tryf.underlying20
  a20 := Tryf.isAgg20
  z20 := Tryf.sizeOf20
  v20 := Tryf.zeroValue20
  t31 := Tryf.underlying36
  a31 := Tryf.isAgg36
  z31 := Tryf.sizeOf36
  v31 := Tryf.zeroValue36
  t37 := Tryf.underlying46
  a37 := Tryf.isAgg46
  z37 := Tryf.sizeOf46
  v37 := Tryf.zeroValue46
  t70 := Tryf.underlying45
  a70 := Tryf.isAgg45
  z70 := Tryf.sizeOf45
  v70 := Tryf.zeroValue45
  t72 := Tryf.underlying48
  a72 := Tryf.isAgg48
  z72 := Tryf.sizeOf48
  v72 := Tryf.zeroValue48
  t75 := Tryf.underlying28
  a75 := Tryf.isAgg28
  z75 := Tryf.sizeOf28
  v75 := Tryf.zeroValue28
  t76 := Tryf.underlying50
  a76 := Tryf.isAgg50
  z76 := Tryf.sizeOf50
  v76 := Tryf.zeroValue50
  t127 := Tryf.underlying56
  a127 := Tryf.isAgg56
  z127 := Tryf.sizeOf56
  v127 := Tryf.zeroValue56
  t164 := Tryf.underlying57
  a164 := Tryf.isAgg57
  z164 := Tryf.sizeOf57
  v164 := Tryf.zeroValue57 }
theorem Tryf.Builder_Extra_156 : Builder.Extra Tryf.prog Tryf.lays156_ren := {
  sizeBuilder := by kernel_rfl
  liesBuilder := by kernel_rfl
  t5 := Tryf.underlying5
  a5 := Tryf.isAgg5
  z5 := Tryf.sizeOf5
  v5 := Tryf.zeroValue5
  infoByte := by kernel_rfl
  cellsByte := by kernel_rfl
  sizeByte := by kernel_rfl
  neB5 := by decide }
open Go.RowKit in
/-- No element: the empty string; the world is as it was. (Whatever the slice's address and capacity: a nil slice too.) (LAID: no walk: one application.) -/
theorem Tryf.strings_Join_none (a : Option Addr) (c : Nat) (sep : ByteArray) (w : World) :
    Calls Tryf.prog 12 #[.slice a 0 c, .string sep] w fun e w' => e = .returned (.string ⟨#[]⟩) ∧ w' = w := Any.strings_Join_none Tryf.lays156 Tryf.Builder_Extra_156 a c sep w
open Go.RowKit in
/-- strings.Join: "Join concatenates the elements of its first argument to create a single string. The separator string sep is placed between elements in the resulting string.": HOWEVER MANY ELEMENTS. Below the heap's end the world is as it was. (LAID: no walk: one application.) -/
theorem Tryf.strings_Join (bk o c : Nat) (xs : List ByteArray) (sep : ByteArray) (w : World) (hcells : ∀ (j : Nat) x, xs[j]? = some x → w.cell? ⟨bk, o + j, none⟩ = some (.string x)) (hbk : bk < w.heap.size) (hN : xs.length ≤ 140737488355328) (hcap : xs.length ≤ c) (hlen : (Lib.join (xs.map (·.data.toList)) sep.data.toList).length ≤ 140737488355328) :
    Calls Tryf.prog 12 #[.slice (some ⟨bk, o, none⟩) xs.length c, .string sep] w fun e w' => e = .returned (.string ⟨(Lib.join (xs.map (·.data.toList)) sep.data.toList).toArray⟩) ∧ Below w.heap.size w w' := Any.strings_Join Tryf.lays156 Tryf.Builder_Extra_156 bk o c xs sep w hcells hbk hN hcap hlen
end Go.Proofs
