/-
  THE SHELF's CONTRACTS AT THIS DUMP, IN PLAIN WORDS, as the kit's lay-shelf and lay-plain tools wrote them for this program: strings.HasPrefix, strings.TrimPrefix, path.Clean, path.Dir, path.Join.
-/
import Derived.Shelf.Strings.Prefix
import Derived.Shelf.Path.Small
import Derived.Shelf.Path.LazyBuf
import Derived.Shelf.Path.CleanRel
import Derived.Shelf.Path.CleanAbs
import Derived.Shelf.Path.Clean
import Derived.Shelf.Path.Join
import Derived.Shelf.Path.CleanRules
import Derived.Shelf.Path.JoinRules
import Derived.Test.Qxb6604474aModsProg
namespace Go.Proofs
open Go.Shelf
def Trym.lays99_ren : Go.Shelf.Ren := ⟨fun | 99 => 12 | 206 => 17 | n => n, fun | 9 => 9 | 4 => 4 | 3 => 3 | n => n, fun | n => n⟩
theorem Trym.lays99 : Go.Proofs.Lays.n99 Trym.prog Trym.lays99_ren := {
  mixed := by kernel_rfl
  f99 := Trym.func12.trans (congrArg some (by kernel_rfl))
  f206 := Trym.func17.trans (congrArg some (by kernel_rfl))
  t3 := Trym.underlying3
  a3 := Trym.isAgg3
  z3 := Trym.sizeOf3
  v3 := Trym.zeroValue3
  t4 := Trym.underlying4
  a4 := Trym.isAgg4
  z4 := Trym.sizeOf4
  v4 := Trym.zeroValue4
  t9 := Trym.underlying9
  a9 := Trym.isAgg9
  z9 := Trym.sizeOf9
  v9 := Trym.zeroValue9 }
open Go.RowKit Go.Lib in
theorem Trym.strings_HasPrefix (s p : ByteArray) (w : World) :
    Calls Trym.prog 12 #[.string s, .string p] w fun e w' => e = .returned (.bool (Lib.hasPrefix s.data.toList p.data.toList)) ∧ w' = w := Any.strings_HasPrefix Trym.lays99 s p w
def Trym.lays101_ren : Go.Shelf.Ren := ⟨fun | 101 => 13 | 208 => 18 | 206 => 17 | n => n, fun | 9 => 9 | 4 => 4 | 3 => 3 | n => n, fun | n => n⟩
theorem Trym.lays101 : Go.Proofs.Lays.n101 Trym.prog Trym.lays101_ren := {
  mixed := by kernel_rfl
  f101 := Trym.func13.trans (congrArg some (by kernel_rfl))
  f206 := Trym.func17.trans (congrArg some (by kernel_rfl))
  f208 := Trym.func18.trans (congrArg some (by kernel_rfl))
  t3 := Trym.underlying3
  a3 := Trym.isAgg3
  z3 := Trym.sizeOf3
  v3 := Trym.zeroValue3
  t4 := Trym.underlying4
  a4 := Trym.isAgg4
  z4 := Trym.sizeOf4
  v4 := Trym.zeroValue4
  t9 := Trym.underlying9
  a9 := Trym.isAgg9
  z9 := Trym.sizeOf9
  v9 := Trym.zeroValue9 }
open Go.RowKit Go.Lib in
theorem Trym.strings_TrimPrefix (s p : ByteArray) (w : World) :
    Calls Trym.prog 13 #[.string s, .string p] w fun e w' => e = .returned (.string ⟨(Lib.trimPrefix s.data.toList p.data.toList).toArray⟩) ∧ w' = w := Any.strings_TrimPrefix Trym.lays101 s p w
def Trym.laysPah30_ren : Go.Shelf.Ren := ⟨fun | 30 => 14 | 46 => 19 | 47 => 20 | 48 => 21 | n => n, fun | 9 => 9 | 4 => 4 | 5 => 5 | 3 => 3 | 42 => 30 | 0 => 0 | 48 => 36 | 30 => 26 | n => n, fun | n => n⟩
theorem Trym.laysPah30 : Go.Proofs.Lays.ph30 Trym.prog Trym.laysPah30_ren := {
  mixed := by kernel_rfl
  f30 := Trym.func14.trans (congrArg some (by kernel_rfl))
  f46 := Trym.func19.trans (congrArg some (by kernel_rfl))
  f47 := Trym.func20.trans (congrArg some (by kernel_rfl))
  f48 := Trym.func21.trans (congrArg some (by kernel_rfl))
  t0 := Trym.underlying0
  a0 := Trym.isAgg0
  z0 := Trym.sizeOf0
  v0 := Trym.zeroValue0
  t3 := Trym.underlying3
  a3 := Trym.isAgg3
  z3 := Trym.sizeOf3
  v3 := Trym.zeroValue3
  t4 := Trym.underlying4
  a4 := Trym.isAgg4
  z4 := Trym.sizeOf4
  v4 := Trym.zeroValue4
  t5 := Trym.underlying5
  a5 := Trym.isAgg5
  z5 := Trym.sizeOf5
  v5 := Trym.zeroValue5
  t9 := Trym.underlying9
  a9 := Trym.isAgg9
  z9 := Trym.sizeOf9
  v9 := Trym.zeroValue9
  t30 := Trym.underlying26
  a30 := Trym.isAgg26
  z30 := Trym.sizeOf26
  v30 := Trym.zeroValue26
  t42 := Trym.underlying30
  a42 := Trym.isAgg30
  z42 := Trym.sizeOf30
  v42 := Trym.zeroValue30
  t48 := Trym.underlying36
  a48 := Trym.isAgg36
  z48 := Trym.sizeOf36
  v48 := Trym.zeroValue36
  info5 := by kernel_rfl }
def Trym.laysPah27_ren : Go.Shelf.Ren := ⟨fun | 27 => 16 | 29 => 22 | 30 => 14 | 45 => 23 | 46 => 19 | 47 => 20 | 48 => 21 | n => n, fun | 9 => 9 | 24 => 34 | 5 => 5 | 3 => 3 | 4 => 4 | 42 => 30 | 0 => 0 | 48 => 36 | 30 => 26 | n => n, fun | n => n⟩
theorem Trym.laysPah27 : Go.Proofs.Lays.ph27 Trym.prog Trym.laysPah27_ren := {
  mixed := by kernel_rfl
  f27 := Trym.func16.trans (congrArg some (by kernel_rfl))
  f29 := Trym.func22.trans (congrArg some (by kernel_rfl))
  f30 := Trym.func14.trans (congrArg some (by kernel_rfl))
  f45 := Trym.func23.trans (congrArg some (by kernel_rfl))
  f46 := Trym.func19.trans (congrArg some (by kernel_rfl))
  f47 := Trym.func20.trans (congrArg some (by kernel_rfl))
  f48 := Trym.func21.trans (congrArg some (by kernel_rfl))
  t0 := Trym.underlying0
  a0 := Trym.isAgg0
  z0 := Trym.sizeOf0
  v0 := Trym.zeroValue0
  t3 := Trym.underlying3
  a3 := Trym.isAgg3
  z3 := Trym.sizeOf3
  v3 := Trym.zeroValue3
  t4 := Trym.underlying4
  a4 := Trym.isAgg4
  z4 := Trym.sizeOf4
  v4 := Trym.zeroValue4
  t5 := Trym.underlying5
  a5 := Trym.isAgg5
  z5 := Trym.sizeOf5
  v5 := Trym.zeroValue5
  t9 := Trym.underlying9
  a9 := Trym.isAgg9
  z9 := Trym.sizeOf9
  v9 := Trym.zeroValue9
  t24 := Trym.underlying34
  a24 := Trym.isAgg34
  z24 := Trym.sizeOf34
  v24 := Trym.zeroValue34
  t30 := Trym.underlying26
  a30 := Trym.isAgg26
  z30 := Trym.sizeOf26
  v30 := Trym.zeroValue26
  t42 := Trym.underlying30
  a42 := Trym.isAgg30
  z42 := Trym.sizeOf30
  v42 := Trym.zeroValue30
  t48 := Trym.underlying36
  a48 := Trym.isAgg36
  z48 := Trym.sizeOf36
  v48 := Trym.zeroValue36
  info5 := by kernel_rfl }
def Trym.laysPah31_ren : Go.Shelf.Ren := ⟨fun | 31 => 15 | 30 => 14 | 46 => 19 | 47 => 20 | 48 => 21 | n => n, fun | 26 => 24 | 9 => 9 | 3 => 3 | 0 => 0 | 4 => 4 | 30 => 26 | 5 => 5 | 42 => 30 | 48 => 36 | n => n, fun | n => n⟩
theorem Trym.laysPah31 : Go.Proofs.Lays.ph31 Trym.prog Trym.laysPah31_ren := {
  mixed := by kernel_rfl
  f30 := Trym.func14.trans (congrArg some (by kernel_rfl))
  f31 := Trym.func15.trans (congrArg some (by kernel_rfl))
  f46 := Trym.func19.trans (congrArg some (by kernel_rfl))
  f47 := Trym.func20.trans (congrArg some (by kernel_rfl))
  f48 := Trym.func21.trans (congrArg some (by kernel_rfl))
  t0 := Trym.underlying0
  a0 := Trym.isAgg0
  z0 := Trym.sizeOf0
  v0 := Trym.zeroValue0
  t3 := Trym.underlying3
  a3 := Trym.isAgg3
  z3 := Trym.sizeOf3
  v3 := Trym.zeroValue3
  t4 := Trym.underlying4
  a4 := Trym.isAgg4
  z4 := Trym.sizeOf4
  v4 := Trym.zeroValue4
  t5 := Trym.underlying5
  a5 := Trym.isAgg5
  z5 := Trym.sizeOf5
  v5 := Trym.zeroValue5
  t9 := Trym.underlying9
  a9 := Trym.isAgg9
  z9 := Trym.sizeOf9
  v9 := Trym.zeroValue9
  t26 := Trym.underlying24
  a26 := Trym.isAgg24
  z26 := Trym.sizeOf24
  v26 := Trym.zeroValue24
  t30 := Trym.underlying26
  a30 := Trym.isAgg26
  z30 := Trym.sizeOf26
  v30 := Trym.zeroValue26
  t42 := Trym.underlying30
  a42 := Trym.isAgg30
  z42 := Trym.sizeOf30
  v42 := Trym.zeroValue30
  t48 := Trym.underlying36
  a48 := Trym.isAgg36
  z48 := Trym.sizeOf36
  v48 := Trym.zeroValue36
  info5 := by kernel_rfl }
open Go.RowKit Go.Lib in
theorem Trym.path_Clean_rules (s : ByteArray) (w : World) (hbig : s.size ≤ 281474976710656) :
    Calls Trym.prog 14 #[.string s] w fun e w' => e = .returned (.string ⟨(Pa.cleanEls s.data.toList).toArray⟩) ∧ Below w.heap.size w w' := Any.path_Clean_rules Trym.laysPah30 s w hbig
open Go.RowKit Go.Lib in
theorem Trym.path_Dir_rules (s : ByteArray) (w : World) (hbig : s.size ≤ 281474976710656) :
    Calls Trym.prog 16 #[.string s] w fun e w' => e = .returned (.string ⟨(Pa.cleanEls (Pa.split s.data.toList).1).toArray⟩) ∧ Below w.heap.size w w' := Any.path_Dir_rules Trym.laysPah27 s w hbig
open Go.RowKit Go.Lib in
theorem Trym.path_Join_rules (bk o c : Nat) (xs : List ByteArray) (w : World) (hcells : ∀ (j : Nat) x, xs[j]? = some x → w.cell? ⟨bk, o + j, none⟩ = some (.string x)) (hbk : bk < w.heap.size) (hlen : Pa.lens (xs.map (·.data.toList)) + xs.length ≤ 281474976710656) :
    Calls Trym.prog 15 #[.slice (some ⟨bk, o, none⟩) xs.length c] w fun e w' => e = .returned (.string ⟨(Pa.join (xs.map (·.data.toList))).toArray⟩) ∧ Below w.heap.size w w' := Any.path_Join_rules Trym.laysPah31 bk o c xs w hcells hbk hlen
end Go.Proofs
