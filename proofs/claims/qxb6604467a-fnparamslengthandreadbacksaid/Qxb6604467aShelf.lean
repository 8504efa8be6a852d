/-
  DERIVED: THE SHELF's CONTRACTS AT THIS DUMP, IN PLAIN WORDS (tools/lay-plain.mjs out of 'Qxb6604467aShelf.lean', which tools/lay-shelf.mjs wrote): THE SAME DECLARATIONS UNDER THE SAME NAMES: 'import', 'namespace', 'open', 'def', 'theorem' AND NOTHING ELSE: no command of the shelf's: FOR A HAND-IN. Each laying: the table of numbers ('.._ren') and one theorem, a field a fact of the dump's own or the kernel's comparison; each contract: ONE APPLICATION.
-/
import Derived.Shelf.Strings.Builder1
import Derived.Shelf.Strings.Builder2
import Derived.Shelf.Strings.OnBuilder
import Derived.Ground.MnProg
import Derived.Shelf.Bin.AppendUvarint
import Derived.Test.Qxb6604467aProg
namespace Go.Proofs
open Go.Shelf
def Try.lays156_ren : Go.Shelf.Ren := ⟨fun | 156 => 39 | 165 => 42 | 166 => 43 | 169 => 44 | 240 => 52 | 241 => 53 | 276 => 54 | 277 => 55 | n => n, fun | 31 => 41 | 9 => 9 | 3 => 3 | 4 => 4 | 0 => 0 | 20 => 20 | 72 => 126 | 76 => 130 | 70 => 124 | 37 => 110 | 75 => 129 | 127 => 137 | 164 => 139 | 5 => 5 | 80 => 102 | n => n, fun | n => n⟩
theorem Try.lays156 : Go.Proofs.Lays.n156 Try.prog Try.lays156_ren := {
  mixed := by kernel_rfl
  f156 := Try.func39.trans (congrArg some (by kernel_rfl))
  f165 := Try.func42.trans (congrArg some (by kernel_rfl))
  f166 := Try.func43.trans (congrArg some (by kernel_rfl))
  f169 := Try.func44.trans (congrArg some (by kernel_rfl))
  f240 := Try.func52.trans (congrArg some (by kernel_rfl))
  f241 := Try.func53.trans (congrArg some (by kernel_rfl))
  f276 := Try.func54.trans (congrArg some (by kernel_rfl))
  f277 := Try.func55.trans (congrArg some (by kernel_rfl))
  t0 := Try.underlying0
  a0 := Try.isAgg0
  z0 := Try.sizeOf0
  v0 := Try.zeroValue0
  t3 := Try.underlying3
  a3 := Try.isAgg3
  z3 := Try.sizeOf3
  v3 := Try.zeroValue3
  t4 := Try.underlying4
  a4 := Try.isAgg4
  z4 := Try.sizeOf4
  v4 := Try.zeroValue4
  t9 := Try.underlying9
  a9 := Try.isAgg9
  z9 := Try.sizeOf9
  v9 := Try.zeroValue9
  t20 := Try.underlying20
  a20 := Try.isAgg20
  z20 := Try.sizeOf20
  v20 := Try.zeroValue20
  t31 := Try.underlying41
  a31 := Try.isAgg41
  z31 := Try.sizeOf41
  v31 := Try.zeroValue41
  t37 := Try.underlying110
  a37 := Try.isAgg110
  z37 := Try.sizeOf110
  v37 := Try.zeroValue110
  t70 := Try.underlying124
  a70 := Try.isAgg124
  z70 := Try.sizeOf124
  v70 := Try.zeroValue124
  t72 := Try.underlying126
  a72 := Try.isAgg126
  z72 := Try.sizeOf126
  v72 := Try.zeroValue126
  t75 := Try.underlying129
  a75 := Try.isAgg129
  z75 := Try.sizeOf129
  v75 := Try.zeroValue129
  t76 := Try.underlying130
  a76 := Try.isAgg130
  z76 := Try.sizeOf130
  v76 := Try.zeroValue130
  t127 := Try.underlying137
  a127 := Try.isAgg137
  z127 := Try.sizeOf137
  v127 := Try.zeroValue137
  t164 := Try.underlying139
  a164 := Try.isAgg139
  z164 := Try.sizeOf139
  v164 := Try.zeroValue139 }
theorem Try.Builder_Extra_156 : Builder.Extra Try.prog Try.lays156_ren := {
  sizeBuilder := by kernel_rfl
  liesBuilder := by kernel_rfl
  t5 := Try.underlying5
  a5 := Try.isAgg5
  z5 := Try.sizeOf5
  v5 := Try.zeroValue5
  infoByte := by kernel_rfl
  cellsByte := by kernel_rfl
  sizeByte := by kernel_rfl
  neB5 := by decide }
open Go.RowKit in
/-- No element: the empty string; the world is as it was. (Whatever the slice's address and capacity: a nil slice too.) (LAID: no walk: one application.) -/
theorem Try.strings_Join_none (a : Option Addr) (c : Nat) (sep : ByteArray) (w : World) :
    Calls Try.prog 39 #[.slice a 0 c, .string sep] w fun e w' => e = .returned (.string ⟨#[]⟩) ∧ w' = w := Any.strings_Join_none Try.lays156 Try.Builder_Extra_156 a c sep w
open Go.RowKit in
/-- strings.Join: "Join concatenates the elements of its first argument to create a single string. The separator string sep is placed between elements in the resulting string.": HOWEVER MANY ELEMENTS. Below the heap's end the world is as it was. (LAID: no walk: one application.) -/
theorem Try.strings_Join (bk o c : Nat) (xs : List ByteArray) (sep : ByteArray) (w : World) (hcells : ∀ (j : Nat) x, xs[j]? = some x → w.cell? ⟨bk, o + j, none⟩ = some (.string x)) (hbk : bk < w.heap.size) (hN : xs.length ≤ 140737488355328) (hcap : xs.length ≤ c) (hlen : (Lib.join (xs.map (·.data.toList)) sep.data.toList).length ≤ 140737488355328) :
    Calls Try.prog 39 #[.slice (some ⟨bk, o, none⟩) xs.length c, .string sep] w fun e w' => e = .returned (.string ⟨(Lib.join (xs.map (·.data.toList)) sep.data.toList).toArray⟩) ∧ Below w.heap.size w w' := Any.strings_Join Try.lays156 Try.Builder_Extra_156 bk o c xs sep w hcells hbk hN hcap hlen
def Try.laysBin47_ren : Go.Shelf.Ren := ⟨fun | 47 => 37 | n => n, fun | 22 => 110 | 33 => 113 | 4 => 4 | 5 => 5 | 45 => 119 | n => n, fun | n => n⟩
theorem Try.laysBin47 : Go.Proofs.LaysBin.n47 Try.prog Try.laysBin47_ren := {
  mixed := by kernel_rfl
  f47 := Try.func37.trans (congrArg some (by kernel_rfl))
  t4 := Try.underlying4
  a4 := Try.isAgg4
  z4 := Try.sizeOf4
  v4 := Try.zeroValue4
  i4 := by kernel_rfl
  t5 := Try.underlying5
  a5 := Try.isAgg5
  z5 := Try.sizeOf5
  v5 := Try.zeroValue5
  i5 := by kernel_rfl
  t22 := Try.underlying110
  a22 := Try.isAgg110
  z22 := Try.sizeOf110
  v22 := Try.zeroValue110
  i22 := by kernel_rfl
  t33 := Try.underlying113
  a33 := Try.isAgg113
  z33 := Try.sizeOf113
  v33 := Try.zeroValue113
  i33 := by kernel_rfl
  t45 := Try.underlying119
  a45 := Try.isAgg119
  z45 := Try.sizeOf119
  v45 := Try.zeroValue119
  i45 := by kernel_rfl }
open Go.RowKit in
/-- binary.AppendUvarint: "AppendUvarint appends the varint-encoded form of x, as generated by PutUvarint, to buf and returns the extended buffer.": WHAT COMES BACK OWNS buf's CELLS AND, BEHIND THEM, x's VARINT ('Lib.uvarint x': seven bits a byte, the least first; at most ten bytes). Below the call's own blocks nothing has turned. (LAID: no walk: one application.) -/
theorem Try.binary_AppendUvarint (B n x : Nat) (hx : x < 18446744073709551616) (sv : Value) (xs : List Value) (w : World) (hown : w.ownsRow B 5 1 sv n xs) (hBw : B ≤ w.heap.size) (hlim : n + 10 ≤ 140737488355328) :
    Calls Try.prog 37 #[sv, .int .u64 x] w fun e w' => ∃ v', e = .returned v' ∧ w'.ownsRow B 5 1 v' (n + (Lib.uvarint x).length) (xs ++ Lib.byteCells (Lib.uvarint x)) ∧ Below B w w' := Any.binary_AppendUvarint Try.laysBin47 B n x hx sv xs w hown hBw hlim
end Go.Proofs
