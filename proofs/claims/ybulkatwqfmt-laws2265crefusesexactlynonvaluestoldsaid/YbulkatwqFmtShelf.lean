/-
  DERIVED: THE SHELF's CONTRACTS AT THIS DUMP, IN PLAIN WORDS (tools/lay-plain.mjs out of 'YbafShelf.lean', which tools/lay-shelf.mjs wrote): THE SAME DECLARATIONS UNDER THE SAME NAMES: 'import', 'namespace', 'open', 'def', 'theorem' AND NOTHING ELSE: no command of the shelf's: FOR A HAND-IN. Each laying: the table of numbers ('.._ren') and one theorem, a field a fact of the dump's own or the kernel's comparison; each contract: ONE APPLICATION.
-/
import Derived.Shelf.Strings.OnBuilder
import Derived.Shelf.LaysM
import Derived.Shelf.Strconv.Itoa3
import Derived.Shelf.Slices.Reverse
import Derived.Shelf.Slices.Cells
import Derived.Test.YbulkatwqFmtRows
namespace Go.Proofs
open Go.Shelf
def Ybaf.lays156_ren : Go.Shelf.Ren := ⟨fun | 156 => 18 | 165 => 20 | 166 => 21 | 169 => 22 | 240 => 24 | 241 => 25 | 276 => 30 | 277 => 31 | n => n, fun | 31 => 54 | 9 => 9 | 3 => 3 | 4 => 4 | 0 => 0 | 20 => 20 | 72 => 59 | 76 => 61 | 70 => 57 | 37 => 22 | 75 => 28 | 127 => 65 | 164 => 72 | 5 => 5 | 80 => 63 | n => n, fun | n => n⟩
theorem Ybaf.lays156 : Go.Proofs.Lays.n156 Ybaf.prog Ybaf.lays156_ren := {
  mixed := by kernel_rfl
  f156 := Ybaf.func18.trans (congrArg some (by kernel_rfl))
  f165 := Ybaf.func20.trans (congrArg some (by kernel_rfl))
  f166 := Ybaf.func21.trans (congrArg some (by kernel_rfl))
  f169 := Ybaf.func22.trans (congrArg some (by kernel_rfl))
  f240 := Ybaf.func24.trans (congrArg some (by kernel_rfl))
  f241 := Ybaf.func25.trans (congrArg some (by kernel_rfl))
  f276 := Ybaf.func30.trans (congrArg some (by kernel_rfl))
  f277 := Ybaf.func31.trans (congrArg some (by kernel_rfl))
  t0 := Ybaf.underlying0
  a0 := Ybaf.isAgg0
  z0 := Ybaf.sizeOf0
  v0 := Ybaf.zeroValue0
  t3 := Ybaf.underlying3
  a3 := Ybaf.isAgg3
  z3 := Ybaf.sizeOf3
  v3 := Ybaf.zeroValue3
  t4 := Ybaf.underlying4
  a4 := Ybaf.isAgg4
  z4 := Ybaf.sizeOf4
  v4 := Ybaf.zeroValue4
  t9 := Ybaf.underlying9
  a9 := Ybaf.isAgg9
  z9 := Ybaf.sizeOf9
  v9 := Ybaf.zeroValue9
  t20 := Ybaf.underlying20
  a20 := Ybaf.isAgg20
  z20 := Ybaf.sizeOf20
  v20 := Ybaf.zeroValue20
  t31 := Ybaf.underlying54
  a31 := Ybaf.isAgg54
  z31 := Ybaf.sizeOf54
  v31 := Ybaf.zeroValue54
  t37 := Ybaf.underlying22
  a37 := Ybaf.isAgg22
  z37 := Ybaf.sizeOf22
  v37 := Ybaf.zeroValue22
  t70 := Ybaf.underlying57
  a70 := Ybaf.isAgg57
  z70 := Ybaf.sizeOf57
  v70 := Ybaf.zeroValue57
  t72 := Ybaf.underlying59
  a72 := Ybaf.isAgg59
  z72 := Ybaf.sizeOf59
  v72 := Ybaf.zeroValue59
  t75 := Ybaf.underlying28
  a75 := Ybaf.isAgg28
  z75 := Ybaf.sizeOf28
  v75 := Ybaf.zeroValue28
  t76 := Ybaf.underlying61
  a76 := Ybaf.isAgg61
  z76 := Ybaf.sizeOf61
  v76 := Ybaf.zeroValue61
  t127 := Ybaf.underlying65
  a127 := Ybaf.isAgg65
  z127 := Ybaf.sizeOf65
  v127 := Ybaf.zeroValue65
  t164 := Ybaf.underlying72
  a164 := Ybaf.isAgg72
  z164 := Ybaf.sizeOf72
  v164 := Ybaf.zeroValue72 }
theorem Ybaf.Builder_Extra_156 : Builder.Extra Ybaf.prog Ybaf.lays156_ren := {
  sizeBuilder := by kernel_rfl
  liesBuilder := by kernel_rfl
  t5 := Ybaf.underlying5
  a5 := Ybaf.isAgg5
  z5 := Ybaf.sizeOf5
  v5 := Ybaf.zeroValue5
  infoByte := by kernel_rfl
  cellsByte := by kernel_rfl
  sizeByte := by kernel_rfl
  neB5 := by decide }
open Go.RowKit in
/-- strings.Join: "Join concatenates the elements of its first argument to create a single string. The separator string sep is placed between elements in the resulting string.": HOWEVER MANY ELEMENTS. Below the heap's end the world is as it was. (LAID: no walk: one application.) -/
theorem Ybaf.strings_Join (bk o c : Nat) (xs : List ByteArray) (sep : ByteArray) (w : World) (hcells : ∀ (j : Nat) x, xs[j]? = some x → w.cell? ⟨bk, o + j, none⟩ = some (.string x)) (hbk : bk < w.heap.size) (hN : xs.length ≤ 140737488355328) (hcap : xs.length ≤ c) (hlen : (Lib.join (xs.map (·.data.toList)) sep.data.toList).length ≤ 140737488355328) :
    Calls Ybaf.prog 18 #[.slice (some ⟨bk, o, none⟩) xs.length c, .string sep] w fun e w' => e = .returned (.string ⟨(Lib.join (xs.map (·.data.toList)) sep.data.toList).toArray⟩) ∧ Below w.heap.size w w' := Any.strings_Join Ybaf.lays156 Ybaf.Builder_Extra_156 bk o c xs sep w hcells hbk hN hcap hlen
def Ybaf.laysM171_ren : Go.Shelf.Ren := ⟨fun | 171 => 17 | 243 => 19 | 246 => 23 | 283 => 26 | 284 => 27 | 285 => 28 | 286 => 29 | 129 => 33 | 317 => 32 | 318 => 34 | 319 => 35 | 320 => 36 | 337 => 37 | 338 => 38 | n => n, fun | 3 => 3 | 9 => 9 | 2 => 2 | 4 => 4 | 171 => 66 | 0 => 0 | 53 => 67 | 37 => 22 | 5 => 5 | 173 => 70 | 212 => 77 | 51 => 78 | 20 => 20 | 213 => 79 | 46 => 81 | 232 => 84 | 233 => 85 | n => n, fun | 17 => 0 | 18 => 2 | 19 => 3 | n => n⟩
theorem Ybaf.laysM171 : Go.Proofs.LaysM.n171 Ybaf.prog Ybaf.laysM171_ren := {
  mixed := by kernel_rfl
  f129 := Ybaf.func33.trans (congrArg some (by kernel_rfl))
  f171 := Ybaf.func17.trans (congrArg some (by kernel_rfl))
  f243 := Ybaf.func19.trans (congrArg some (by kernel_rfl))
  f246 := Ybaf.func23.trans (congrArg some (by kernel_rfl))
  f283 := Ybaf.func26.trans (congrArg some (by kernel_rfl))
  f284 := Ybaf.func27.trans (congrArg some (by kernel_rfl))
  f285 := Ybaf.func28.trans (congrArg some (by kernel_rfl))
  f286 := Ybaf.func29.trans (congrArg some (by kernel_rfl))
  f317 := Ybaf.func32.trans (congrArg some (by kernel_rfl))
  f318 := Ybaf.func34.trans (congrArg some (by kernel_rfl))
  f319 := Ybaf.func35.trans (congrArg some (by kernel_rfl))
  f320 := Ybaf.func36.trans (congrArg some (by kernel_rfl))
  f337 := Ybaf.func37.trans (congrArg some (by kernel_rfl))
  f338 := Ybaf.func38.trans (congrArg some (by kernel_rfl))
  t0 := Ybaf.underlying0
  a0 := Ybaf.isAgg0
  z0 := Ybaf.sizeOf0
  v0 := Ybaf.zeroValue0
  t2 := Ybaf.underlying2
  a2 := Ybaf.isAgg2
  z2 := Ybaf.sizeOf2
  v2 := Ybaf.zeroValue2
  t3 := Ybaf.underlying3
  a3 := Ybaf.isAgg3
  z3 := Ybaf.sizeOf3
  v3 := Ybaf.zeroValue3
  t4 := Ybaf.underlying4
  a4 := Ybaf.isAgg4
  z4 := Ybaf.sizeOf4
  v4 := Ybaf.zeroValue4
  t5 := Ybaf.underlying5
  a5 := Ybaf.isAgg5
  z5 := Ybaf.sizeOf5
  v5 := Ybaf.zeroValue5
  t9 := Ybaf.underlying9
  a9 := Ybaf.isAgg9
  z9 := Ybaf.sizeOf9
  v9 := Ybaf.zeroValue9
  t20 := Ybaf.underlying20
  a20 := Ybaf.isAgg20
  z20 := Ybaf.sizeOf20
  v20 := Ybaf.zeroValue20
  t37 := Ybaf.underlying22
  a37 := Ybaf.isAgg22
  z37 := Ybaf.sizeOf22
  v37 := Ybaf.zeroValue22
  t46 := Ybaf.underlying81
  a46 := Ybaf.isAgg81
  z46 := Ybaf.sizeOf81
  v46 := Ybaf.zeroValue81
  t51 := Ybaf.underlying78
  a51 := Ybaf.isAgg78
  z51 := Ybaf.sizeOf78
  v51 := Ybaf.zeroValue78
  t53 := Ybaf.underlying67
  a53 := Ybaf.isAgg67
  z53 := Ybaf.sizeOf67
  v53 := Ybaf.zeroValue67
  t171 := Ybaf.underlying66
  a171 := Ybaf.isAgg66
  z171 := Ybaf.sizeOf66
  v171 := Ybaf.zeroValue66
  t173 := Ybaf.underlying70
  a173 := Ybaf.isAgg70
  z173 := Ybaf.sizeOf70
  v173 := Ybaf.zeroValue70
  t212 := Ybaf.underlying77
  a212 := Ybaf.isAgg77
  z212 := Ybaf.sizeOf77
  v212 := Ybaf.zeroValue77
  t213 := Ybaf.underlying79
  a213 := Ybaf.isAgg79
  z213 := Ybaf.sizeOf79
  t232 := Ybaf.underlying84
  a232 := Ybaf.isAgg84
  z232 := Ybaf.sizeOf84
  v232 := Ybaf.zeroValue84
  t233 := Ybaf.underlying85
  a233 := Ybaf.isAgg85
  z233 := Ybaf.sizeOf85
  v233 := Ybaf.zeroValue85
  g17 := by kernel_rfl
  g18 := by kernel_rfl
  g19 := by kernel_rfl
  i0 := by kernel_rfl
  i2 := by kernel_rfl
  i3 := by kernel_rfl
  i4 := by kernel_rfl
  i5 := by kernel_rfl
  i9 := by kernel_rfl
  i20 := by kernel_rfl
  i37 := by kernel_rfl
  i46 := by kernel_rfl
  i51 := by kernel_rfl
  i53 := by kernel_rfl
  i171 := by kernel_rfl
  i173 := by kernel_rfl
  i212 := by kernel_rfl
  i232 := by kernel_rfl
  i233 := by kernel_rfl
  m17 := by kernel_rfl
  m18 := by kernel_rfl
  m19 := by kernel_rfl }
open Go.RowKit Go.Sort Go.Lib in
/-- strconv.Itoa: "Itoa is equivalent to FormatInt(int64(i), 10).": i's DECIMAL NUMERAL ('Lib.itoa': a '-' where i is negative, then the digits), FOR EVERY int. The world behind the call: the world before it, new blocks behind the heap (the library's 'var a [24]byte'), draws. (LAID: no walk: one application.) -/
theorem Ybaf.strconv_Itoa (n : Int) (h0 : -9223372036854775808 ≤ n) (h1 : n ≤ 9223372036854775807) (w : World) (htab : Lib.TabIs Ybaf.prog w (YbulkatwqFmt.Rows.lawS2265CRefusesExactlyNonValuesRow.named.headD default) .u64 Lib.pow10Tab) :
    Calls Ybaf.prog 17 #[.int .i64 n] w fun e w' => e = .returned (.string ⟨(Lib.itoa n).toArray⟩) ∧ ∃ k os, w' = grow (w.drewN k) os := Any.strconv_Itoa Ybaf.laysM171 n h0 h1 w htab
def Ybaf.lays112_ren : Go.Shelf.Ren := ⟨fun | 112 => 9 | n => n, fun | 28 => 40 | 3 => 3 | 4 => 4 | 0 => 0 | n => n, fun | n => n⟩
theorem Ybaf.lays112 : Go.Proofs.Lays.n112 Ybaf.prog Ybaf.lays112_ren := {
  mixed := by kernel_rfl
  f112 := Ybaf.func9.trans (congrArg some (by kernel_rfl))
  t0 := Ybaf.underlying0
  a0 := Ybaf.isAgg0
  z0 := Ybaf.sizeOf0
  v0 := Ybaf.zeroValue0
  t3 := Ybaf.underlying3
  a3 := Ybaf.isAgg3
  z3 := Ybaf.sizeOf3
  v3 := Ybaf.zeroValue3
  t4 := Ybaf.underlying4
  a4 := Ybaf.isAgg4
  z4 := Ybaf.sizeOf4
  v4 := Ybaf.zeroValue4
  t28 := Ybaf.underlying40
  a28 := Ybaf.isAgg40
  z28 := Ybaf.sizeOf40
  v28 := Ybaf.zeroValue40 }
open Go.RowKit Go.Lib Go.Sort in
/-- slices.Reverse at []int, of an argument: the n cells hold the elements in reverse. (LAID: no walk: one application.) -/
theorem Ybaf.slices_Reverse_int_cells (b off n c : Nat) (zs : List Int) (w : World) (hz : n ≤ zs.length) (hbig : n ≤ 9223372036854775807) (hc : ∀ j, j < zs.length → w.cell? ⟨b, off + j, none⟩ = some (.int .i64 (zs.getD j 0))) (hf : ∀ j, j < n → w.frozen? ⟨b, off + j, none⟩ = false) :
    Calls Ybaf.prog 9 #[.slice (some ⟨b, off, none⟩) n c] w fun e w' => e = .returned (.tuple #[]) ∧ ∃ q, w' = (w.drewN q).setCells b off ((zs.take n).reverse.map (Value.int .i64)) := Any.slices_Reverse_int_cells Ybaf.lays112 b off n c zs w hz hbig hc hf
end Go.Proofs
