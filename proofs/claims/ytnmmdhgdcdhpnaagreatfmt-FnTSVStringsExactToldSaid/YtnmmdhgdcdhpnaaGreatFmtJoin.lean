/-
  The library's contracts at this seat's numbers, laid by the kit's own tool (lay-plain.mjs) and cut to what is used.
-/
import Derived.Shelf.Strings.OnBuilder
import Derived.Test.YtnmmdhgdcdhpnaaGreatFmtProg
namespace Go.Proofs.YtnmmdhgdcdhpnaaGreatFmt
open Go Go.Shelf Go.RowKit Go.Proofs
def Tryz.lays156_ren : Go.Shelf.Ren := ⟨fun | 156 => 50 | 165 => 60 | 166 => 61 | 169 => 59 | 240 => 76 | 241 => 77 | 276 => 86 | 277 => 87 | n => n, fun | 31 => 22 | 9 => 9 | 3 => 3 | 4 => 4 | 0 => 0 | 20 => 20 | 72 => 76 | 76 => 72 | 70 => 74 | 37 => 28 | 75 => 54 | 127 => 111 | 164 => 130 | 5 => 5 | 80 => 83 | n => n, fun | n => n⟩
theorem Tryz.lays156 : Go.Proofs.Lays.n156 Tryz.prog Tryz.lays156_ren := {
  mixed := by kernel_rfl
  f156 := Tryz.func50.trans (congrArg some (by kernel_rfl))
  f165 := Tryz.func60.trans (congrArg some (by kernel_rfl))
  f166 := Tryz.func61.trans (congrArg some (by kernel_rfl))
  f169 := Tryz.func59.trans (congrArg some (by kernel_rfl))
  f240 := Tryz.func76.trans (congrArg some (by kernel_rfl))
  f241 := Tryz.func77.trans (congrArg some (by kernel_rfl))
  f276 := Tryz.func86.trans (congrArg some (by kernel_rfl))
  f277 := Tryz.func87.trans (congrArg some (by kernel_rfl))
  t0 := Tryz.underlying0
  a0 := Tryz.isAgg0
  z0 := Tryz.sizeOf0
  v0 := Tryz.zeroValue0
  t3 := Tryz.underlying3
  a3 := Tryz.isAgg3
  z3 := Tryz.sizeOf3
  v3 := Tryz.zeroValue3
  t4 := Tryz.underlying4
  a4 := Tryz.isAgg4
  z4 := Tryz.sizeOf4
  v4 := Tryz.zeroValue4
  t9 := Tryz.underlying9
  a9 := Tryz.isAgg9
  z9 := Tryz.sizeOf9
  v9 := Tryz.zeroValue9
  t20 := Tryz.underlying20
  a20 := Tryz.isAgg20
  z20 := Tryz.sizeOf20
  v20 := Tryz.zeroValue20
  t31 := Tryz.underlying22
  a31 := Tryz.isAgg22
  z31 := Tryz.sizeOf22
  v31 := Tryz.zeroValue22
  t37 := Tryz.underlying28
  a37 := Tryz.isAgg28
  z37 := Tryz.sizeOf28
  v37 := Tryz.zeroValue28
  t70 := Tryz.underlying74
  a70 := Tryz.isAgg74
  z70 := Tryz.sizeOf74
  v70 := Tryz.zeroValue74
  t72 := Tryz.underlying76
  a72 := Tryz.isAgg76
  z72 := Tryz.sizeOf76
  v72 := Tryz.zeroValue76
  t75 := Tryz.underlying54
  a75 := Tryz.isAgg54
  z75 := Tryz.sizeOf54
  v75 := Tryz.zeroValue54
  t76 := Tryz.underlying72
  a76 := Tryz.isAgg72
  z76 := Tryz.sizeOf72
  v76 := Tryz.zeroValue72
  t127 := Tryz.underlying111
  a127 := Tryz.isAgg111
  z127 := Tryz.sizeOf111
  v127 := Tryz.zeroValue111
  t164 := Tryz.underlying130
  a164 := Tryz.isAgg130
  z164 := Tryz.sizeOf130
  v164 := Tryz.zeroValue130 }
theorem Tryz.Builder_Extra_156 : Builder.Extra Tryz.prog Tryz.lays156_ren := {
  sizeBuilder := by kernel_rfl
  liesBuilder := by kernel_rfl
  t5 := Tryz.underlying5
  a5 := Tryz.isAgg5
  z5 := Tryz.sizeOf5
  v5 := Tryz.zeroValue5
  infoByte := by kernel_rfl
  cellsByte := by kernel_rfl
  sizeByte := by kernel_rfl
  neB5 := by decide }
/-- No element: the empty string; the world is as it was. (Whatever the slice's address and capacity: a nil slice too.) (LAID: no walk: one application.) -/
theorem Tryz.strings_Join_none (a : Option Addr) (c : Nat) (sep : ByteArray) (w : World) :
    Calls Tryz.prog 50 #[.slice a 0 c, .string sep] w fun e w' => e = .returned (.string ⟨#[]⟩) ∧ w' = w := Any.strings_Join_none Tryz.lays156 Tryz.Builder_Extra_156 a c sep w
/-- strings.Join: "Join concatenates the elements of its first argument to create a single string. The separator string sep is placed between elements in the resulting string.": HOWEVER MANY ELEMENTS. Below the heap's end the world is as it was. (LAID: no walk: one application.) -/
theorem Tryz.strings_Join (bk o c : Nat) (xs : List ByteArray) (sep : ByteArray) (w : World) (hcells : ∀ (j : Nat) x, xs[j]? = some x → w.cell? ⟨bk, o + j, none⟩ = some (.string x)) (hbk : bk < w.heap.size) (hN : xs.length ≤ 140737488355328) (hcap : xs.length ≤ c) (hlen : (Lib.join (xs.map (·.data.toList)) sep.data.toList).length ≤ 140737488355328) :
    Calls Tryz.prog 50 #[.slice (some ⟨bk, o, none⟩) xs.length c, .string sep] w fun e w' => e = .returned (.string ⟨(Lib.join (xs.map (·.data.toList)) sep.data.toList).toArray⟩) ∧ Below w.heap.size w w' := Any.strings_Join Tryz.lays156 Tryz.Builder_Extra_156 bk o c xs sep w hcells hbk hN hcap hlen
end Go.Proofs.YtnmmdhgdcdhpnaaGreatFmt
