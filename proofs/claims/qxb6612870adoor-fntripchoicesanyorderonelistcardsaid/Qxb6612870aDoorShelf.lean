/-
  DERIVED: THE SHELF's CONTRACTS AT THIS DUMP, IN PLAIN WORDS (tools/lay-plain.mjs out of 'TrydShelf.lean', which tools/lay-shelf.mjs wrote): THE SAME DECLARATIONS UNDER THE SAME NAMES: 'import', 'namespace', 'open', 'def', 'theorem' AND NOTHING ELSE: no command of the shelf's: FOR A HAND-IN. Each laying: the table of numbers ('.._ren') and one theorem, a field a fact of the dump's own or the kernel's comparison; each contract: ONE APPLICATION.
-/
import Derived.Shelf.SlGeneric
import Derived.Shelf.Strings.OnBuilder
import Derived.Shelf.Sort.Plain
import Derived.Shelf.SlIterI.Collect
import Derived.Shelf.SlIterI.Keys
import Derived.Ground.GgzProg
import Derived.Test.Qxb6612870aDoorProg
namespace Go.Proofs
open Go.Shelf
def Tryd.lays156_ren : Go.Shelf.Ren := ⟨fun | 156 => 15 | 165 => 21 | 166 => 22 | 169 => 23 | 240 => 36 | 241 => 37 | 276 => 48 | 277 => 49 | n => n, fun | 31 => 38 | 9 => 9 | 3 => 3 | 4 => 4 | 0 => 0 | 20 => 20 | 72 => 49 | 76 => 53 | 70 => 46 | 37 => 47 | 75 => 52 | 127 => 69 | 164 => 81 | 5 => 5 | 80 => 22 | n => n, fun | n => n⟩
theorem Tryd.lays156 : Go.Proofs.Lays.n156 Tryd.prog Tryd.lays156_ren := {
  mixed := by kernel_rfl
  f156 := Tryd.func15.trans (congrArg some (by kernel_rfl))
  f165 := Tryd.func21.trans (congrArg some (by kernel_rfl))
  f166 := Tryd.func22.trans (congrArg some (by kernel_rfl))
  f169 := Tryd.func23.trans (congrArg some (by kernel_rfl))
  f240 := Tryd.func36.trans (congrArg some (by kernel_rfl))
  f241 := Tryd.func37.trans (congrArg some (by kernel_rfl))
  f276 := Tryd.func48.trans (congrArg some (by kernel_rfl))
  f277 := Tryd.func49.trans (congrArg some (by kernel_rfl))
  t0 := Tryd.underlying0
  a0 := Tryd.isAgg0
  z0 := Tryd.sizeOf0
  v0 := Tryd.zeroValue0
  t3 := Tryd.underlying3
  a3 := Tryd.isAgg3
  z3 := Tryd.sizeOf3
  v3 := Tryd.zeroValue3
  t4 := Tryd.underlying4
  a4 := Tryd.isAgg4
  z4 := Tryd.sizeOf4
  v4 := Tryd.zeroValue4
  t9 := Tryd.underlying9
  a9 := Tryd.isAgg9
  z9 := Tryd.sizeOf9
  v9 := Tryd.zeroValue9
  t20 := Tryd.underlying20
  a20 := Tryd.isAgg20
  z20 := Tryd.sizeOf20
  v20 := Tryd.zeroValue20
  t31 := Tryd.underlying38
  a31 := Tryd.isAgg38
  z31 := Tryd.sizeOf38
  v31 := Tryd.zeroValue38
  t37 := Tryd.underlying47
  a37 := Tryd.isAgg47
  z37 := Tryd.sizeOf47
  v37 := Tryd.zeroValue47
  t70 := Tryd.underlying46
  a70 := Tryd.isAgg46
  z70 := Tryd.sizeOf46
  v70 := Tryd.zeroValue46
  t72 := Tryd.underlying49
  a72 := Tryd.isAgg49
  z72 := Tryd.sizeOf49
  v72 := Tryd.zeroValue49
  t75 := Tryd.underlying52
  a75 := Tryd.isAgg52
  z75 := Tryd.sizeOf52
  v75 := Tryd.zeroValue52
  t76 := Tryd.underlying53
  a76 := Tryd.isAgg53
  z76 := Tryd.sizeOf53
  v76 := Tryd.zeroValue53
  t127 := Tryd.underlying69
  a127 := Tryd.isAgg69
  z127 := Tryd.sizeOf69
  v127 := Tryd.zeroValue69
  t164 := Tryd.underlying81
  a164 := Tryd.isAgg81
  z164 := Tryd.sizeOf81
  v164 := Tryd.zeroValue81 }
theorem Tryd.Builder_Extra_156 : Builder.Extra Tryd.prog Tryd.lays156_ren := {
  sizeBuilder := by kernel_rfl
  liesBuilder := by kernel_rfl
  t5 := Tryd.underlying5
  a5 := Tryd.isAgg5
  z5 := Tryd.sizeOf5
  v5 := Tryd.zeroValue5
  infoByte := by kernel_rfl
  cellsByte := by kernel_rfl
  sizeByte := by kernel_rfl
  neB5 := by decide }
open Go.RowKit in
/-- No element: the empty string; the world is as it was. (Whatever the slice's address and capacity: a nil slice too.) (LAID: no walk: one application.) -/
theorem Tryd.strings_Join_none (a : Option Addr) (c : Nat) (sep : ByteArray) (w : World) :
    Calls Tryd.prog 15 #[.slice a 0 c, .string sep] w fun e w' => e = .returned (.string ⟨#[]⟩) ∧ w' = w := Any.strings_Join_none Tryd.lays156 Tryd.Builder_Extra_156 a c sep w
open Go.RowKit in
/-- strings.Join: "Join concatenates the elements of its first argument to create a single string. The separator string sep is placed between elements in the resulting string.": HOWEVER MANY ELEMENTS. Below the heap's end the world is as it was. (LAID: no walk: one application.) -/
theorem Tryd.strings_Join (bk o c : Nat) (xs : List ByteArray) (sep : ByteArray) (w : World) (hcells : ∀ (j : Nat) x, xs[j]? = some x → w.cell? ⟨bk, o + j, none⟩ = some (.string x)) (hbk : bk < w.heap.size) (hN : xs.length ≤ 140737488355328) (hcap : xs.length ≤ c) (hlen : (Lib.join (xs.map (·.data.toList)) sep.data.toList).length ≤ 140737488355328) :
    Calls Tryd.prog 15 #[.slice (some ⟨bk, o, none⟩) xs.length c, .string sep] w fun e w' => e = .returned (.string ⟨(Lib.join (xs.map (·.data.toList)) sep.data.toList).toArray⟩) ∧ Below w.heap.size w w' := Any.strings_Join Tryd.lays156 Tryd.Builder_Extra_156 bk o c xs sep w hcells hbk hN hcap hlen
def Tryd.lays190_ren : Go.Shelf.Ren := ⟨fun | 190 => 14 | 125 => 20 | 258 => 19 | 128 => 34 | 129 => 35 | 302 => 25 | 303 => 26 | 304 => 27 | 305 => 28 | 306 => 29 | 307 => 30 | 308 => 31 | 309 => 32 | 310 => 33 | 333 => 42 | 329 => 43 | 330 => 44 | 334 => 45 | 335 => 46 | 336 => 47 | 344 => 54 | n => n, fun | 31 => 38 | 9 => 9 | 3 => 3 | 46 => 45 | 0 => 0 | 51 => 66 | 53 => 68 | 4 => 4 | 183 => 58 | 182 => 57 | 131 => 63 | 5 => 5 | 218 => 74 | 222 => 78 | 228 => 88 | 229 => 89 | n => n, fun | n => n⟩
theorem Tryd.lays190 : Go.Proofs.Lays.n190 Tryd.prog Tryd.lays190_ren := {
  mixed := by kernel_rfl
  f125 := Tryd.func20.trans (congrArg some (by kernel_rfl))
  f128 := Tryd.func34.trans (congrArg some (by kernel_rfl))
  f129 := Tryd.func35.trans (congrArg some (by kernel_rfl))
  f190 := Tryd.func14.trans (congrArg some (by kernel_rfl))
  f258 := Tryd.func19.trans (congrArg some (by kernel_rfl))
  f302 := Tryd.func25.trans (congrArg some (by kernel_rfl))
  f303 := Tryd.func26.trans (congrArg some (by kernel_rfl))
  f304 := Tryd.func27.trans (congrArg some (by kernel_rfl))
  f305 := Tryd.func28.trans (congrArg some (by kernel_rfl))
  f306 := Tryd.func29.trans (congrArg some (by kernel_rfl))
  f307 := Tryd.func30.trans (congrArg some (by kernel_rfl))
  f308 := Tryd.func31.trans (congrArg some (by kernel_rfl))
  f309 := Tryd.func32.trans (congrArg some (by kernel_rfl))
  f310 := Tryd.func33.trans (congrArg some (by kernel_rfl))
  f329 := Tryd.func43.trans (congrArg some (by kernel_rfl))
  f330 := Tryd.func44.trans (congrArg some (by kernel_rfl))
  f333 := Tryd.func42.trans (congrArg some (by kernel_rfl))
  f334 := Tryd.func45.trans (congrArg some (by kernel_rfl))
  f335 := Tryd.func46.trans (congrArg some (by kernel_rfl))
  f336 := Tryd.func47.trans (congrArg some (by kernel_rfl))
  f344 := Tryd.func54.trans (congrArg some (by kernel_rfl))
  t0 := Tryd.underlying0
  a0 := Tryd.isAgg0
  z0 := Tryd.sizeOf0
  v0 := Tryd.zeroValue0
  t3 := Tryd.underlying3
  a3 := Tryd.isAgg3
  z3 := Tryd.sizeOf3
  v3 := Tryd.zeroValue3
  t4 := Tryd.underlying4
  a4 := Tryd.isAgg4
  z4 := Tryd.sizeOf4
  v4 := Tryd.zeroValue4
  t5 := Tryd.underlying5
  a5 := Tryd.isAgg5
  z5 := Tryd.sizeOf5
  v5 := Tryd.zeroValue5
  t9 := Tryd.underlying9
  a9 := Tryd.isAgg9
  z9 := Tryd.sizeOf9
  v9 := Tryd.zeroValue9
  t31 := Tryd.underlying38
  a31 := Tryd.isAgg38
  z31 := Tryd.sizeOf38
  v31 := Tryd.zeroValue38
  t46 := Tryd.underlying45
  a46 := Tryd.isAgg45
  z46 := Tryd.sizeOf45
  v46 := Tryd.zeroValue45
  t51 := Tryd.underlying66
  a51 := Tryd.isAgg66
  z51 := Tryd.sizeOf66
  v51 := Tryd.zeroValue66
  t53 := Tryd.underlying68
  a53 := Tryd.isAgg68
  z53 := Tryd.sizeOf68
  v53 := Tryd.zeroValue68
  t131 := Tryd.underlying63
  a131 := Tryd.isAgg63
  z131 := Tryd.sizeOf63
  v131 := Tryd.zeroValue63
  t182 := Tryd.underlying57
  a182 := Tryd.isAgg57
  z182 := Tryd.sizeOf57
  v182 := Tryd.zeroValue57
  t183 := Tryd.underlying58
  a183 := Tryd.isAgg58
  z183 := Tryd.sizeOf58
  v183 := Tryd.zeroValue58
  t218 := Tryd.underlying74
  a218 := Tryd.isAgg74
  z218 := Tryd.sizeOf74
  v218 := Tryd.zeroValue74
  t222 := Tryd.underlying78
  a222 := Tryd.isAgg78
  z222 := Tryd.sizeOf78
  v222 := Tryd.zeroValue78
  t228 := Tryd.underlying88
  a228 := Tryd.isAgg88
  z228 := Tryd.sizeOf88
  v228 := Tryd.zeroValue88
  t229 := Tryd.underlying89
  a229 := Tryd.isAgg89
  z229 := Tryd.sizeOf89
  v229 := Tryd.zeroValue89 }
open Go.Sort Go.RowKit in
theorem Tryd.slices_Sort_string (blk off cap : Nat) (ss : List (List UInt8)) (w : World) (hH : Holds encStr w blk off ss.toArray) (hblk : blk < w.heap.size) (hsz : ss.length < 4611686018427387904) :
    Calls Tryd.prog 14 #[.slice (some ⟨blk, off, none⟩) ss.length cap] w fun e w' =>
      e = .returned (.tuple #[]) ∧ ∃ n os, w' = grow (putRow encStr (Sort.ahead w n) blk off (ss.mergeSort fun x y => decide (x ≤ y)).toArray) os := Any.slices_Sort_string Tryd.lays190 blk off cap ss w hH hblk hsz
def Tryd.keysA_ren : Go.Shelf.Ren := ⟨fun | 7 => 13 | 10 => 18 | n => n, fun | 23 => 32 | 26 => 26 | 3 => 9 | 28 => 36 | 0 => 0 | 27 => 35 | 33 => 42 | 4 => 4 | n => n, fun | n => n⟩
theorem Tryd.keysA : Go.Proofs.SlLaysZI.n7 Tryd.prog Tryd.keysA_ren := {
  mixed := by kernel_rfl
  f7 := ⟨Tryd.f13.name, by decide, Tryd.func13.trans (congrArg some (by kernel_rfl))⟩
  f10 := ⟨Tryd.f18.name, by decide, Tryd.func18.trans (congrArg some (by kernel_rfl))⟩
  t0 := Tryd.underlying0
  a0 := Tryd.isAgg0
  z0 := Tryd.sizeOf0
  v0 := Tryd.zeroValue0
  t4 := Tryd.underlying4
  a4 := Tryd.isAgg4
  z4 := Tryd.sizeOf4
  v4 := Tryd.zeroValue4
  t23 := Tryd.underlying32
  a23 := Tryd.isAgg32
  z23 := Tryd.sizeOf32
  v23 := Tryd.zeroValue32
  t26 := Tryd.underlying26
  a26 := Tryd.isAgg26
  z26 := Tryd.sizeOf26
  v26 := Tryd.zeroValue26
  t27 := Tryd.underlying35
  a27 := Tryd.isAgg35
  z27 := Tryd.sizeOf35
  v27 := Tryd.zeroValue35
  t28 := Tryd.underlying36
  a28 := Tryd.isAgg36
  z28 := Tryd.sizeOf36
  v28 := Tryd.zeroValue36
  t33 := Tryd.underlying42
  a33 := Tryd.isAgg42
  z33 := Tryd.sizeOf42
  v33 := Tryd.zeroValue42 }
def Tryd.collectA_ren : Go.Shelf.Ren := ⟨fun | 8 => 12 | 11 => 17 | n => n, fun | 26 => 26 | 28 => 36 | 24 => 29 | 0 => 0 | 33 => 42 | 4 => 4 | n => n, fun | n => n⟩
theorem Tryd.collectA : Go.Proofs.SlLaysZI.n8 Tryd.prog Tryd.collectA_ren := {
  mixed := by kernel_rfl
  f8 := ⟨Tryd.f12.name, by decide, Tryd.func12.trans (congrArg some (by kernel_rfl))⟩
  f11 := ⟨Tryd.f17.name, by decide, Tryd.func17.trans (congrArg some (by kernel_rfl))⟩
  t0 := Tryd.underlying0
  a0 := Tryd.isAgg0
  z0 := Tryd.sizeOf0
  v0 := Tryd.zeroValue0
  t24 := Tryd.underlying29
  a24 := Tryd.isAgg29
  z24 := Tryd.sizeOf29
  v24 := Tryd.zeroValue29
  t26 := Tryd.underlying26
  a26 := Tryd.isAgg26
  z26 := Tryd.sizeOf26
  v26 := Tryd.zeroValue26
  t28 := Tryd.underlying36
  a28 := Tryd.isAgg36
  z28 := Tryd.sizeOf36
  v28 := Tryd.zeroValue36
  i26 := by kernel_rfl }
end Go.Proofs
