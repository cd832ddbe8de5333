/-
  DERIVED: THE SHELF's CONTRACTS AT THIS DUMP, IN PLAIN WORDS (tools/lay-plain.mjs out of 'YbulkexnbeShelf.lean', which tools/lay-shelf.mjs wrote): THE SAME DECLARATIONS UNDER THE SAME NAMES: 'import', 'namespace', 'open', 'def', 'theorem' AND NOTHING ELSE: no command of the shelf's: FOR A HAND-IN. Each laying: the table of numbers ('.._ren') and one theorem, a field a fact of the dump's own or the kernel's comparison; each contract: ONE APPLICATION.
-/
import Derived.Shelf.Sort.Plain
import Derived.Shelf.Slices.Reverse
import Derived.Shelf.Slices.Equal
import Derived.Ground.Names2Prog
import Derived.Shelf.Slices.Clone
import Derived.Shelf.Slices.Cells
import Derived.Shelf.Slices.Empties2
import Derived.Shelf.Spec.SlicesInsert
import Derived.Shelf.Spec.SlicesInsertGrow
import Derived.Shelf.SlCmpFuncs.BinarySearchFunc
import Derived.Shelf.SlGeneric
import Derived.Ground.SlsgProg
import Derived.Test.YbulkexnbeProg
namespace Go.Proofs
open Go.Shelf
def Yba.lays189_ren : Go.Shelf.Ren := ⟨fun | 189 => 9 | 125 => 15 | 257 => 14 | 128 => 27 | 129 => 28 | 294 => 18 | 295 => 19 | 296 => 20 | 297 => 21 | 298 => 22 | 299 => 23 | 216 => 24 | 300 => 25 | 301 => 26 | 328 => 31 | 329 => 32 | 330 => 33 | 331 => 34 | 332 => 35 | 215 => 12 | 343 => 37 | n => n, fun | 28 => 23 | 3 => 3 | 46 => 41 | 0 => 0 | 51 => 55 | 53 => 57 | 4 => 4 | 183 => 48 | 182 => 47 | 131 => 43 | 5 => 5 | 9 => 9 | 218 => 59 | 222 => 63 | 228 => 65 | 229 => 66 | n => n, fun | n => n⟩
theorem Yba.lays189 : Go.Proofs.Lays.n189 Yba.prog Yba.lays189_ren := {
  mixed := by kernel_rfl
  f125 := Yba.func15.trans (congrArg some (by kernel_rfl))
  f128 := Yba.func27.trans (congrArg some (by kernel_rfl))
  f129 := Yba.func28.trans (congrArg some (by kernel_rfl))
  f189 := Yba.func9.trans (congrArg some (by kernel_rfl))
  f215 := Yba.func12.trans (congrArg some (by kernel_rfl))
  f216 := Yba.func24.trans (congrArg some (by kernel_rfl))
  f257 := Yba.func14.trans (congrArg some (by kernel_rfl))
  f294 := Yba.func18.trans (congrArg some (by kernel_rfl))
  f295 := Yba.func19.trans (congrArg some (by kernel_rfl))
  f296 := Yba.func20.trans (congrArg some (by kernel_rfl))
  f297 := Yba.func21.trans (congrArg some (by kernel_rfl))
  f298 := Yba.func22.trans (congrArg some (by kernel_rfl))
  f299 := Yba.func23.trans (congrArg some (by kernel_rfl))
  f300 := Yba.func25.trans (congrArg some (by kernel_rfl))
  f301 := Yba.func26.trans (congrArg some (by kernel_rfl))
  f328 := Yba.func31.trans (congrArg some (by kernel_rfl))
  f329 := Yba.func32.trans (congrArg some (by kernel_rfl))
  f330 := Yba.func33.trans (congrArg some (by kernel_rfl))
  f331 := Yba.func34.trans (congrArg some (by kernel_rfl))
  f332 := Yba.func35.trans (congrArg some (by kernel_rfl))
  f343 := Yba.func37.trans (congrArg some (by kernel_rfl))
  t0 := Yba.underlying0
  a0 := Yba.isAgg0
  z0 := Yba.sizeOf0
  v0 := Yba.zeroValue0
  t3 := Yba.underlying3
  a3 := Yba.isAgg3
  z3 := Yba.sizeOf3
  v3 := Yba.zeroValue3
  t4 := Yba.underlying4
  a4 := Yba.isAgg4
  z4 := Yba.sizeOf4
  v4 := Yba.zeroValue4
  t5 := Yba.underlying5
  a5 := Yba.isAgg5
  z5 := Yba.sizeOf5
  v5 := Yba.zeroValue5
  t9 := Yba.underlying9
  a9 := Yba.isAgg9
  z9 := Yba.sizeOf9
  v9 := Yba.zeroValue9
  t28 := Yba.underlying23
  a28 := Yba.isAgg23
  z28 := Yba.sizeOf23
  v28 := Yba.zeroValue23
  t46 := Yba.underlying41
  a46 := Yba.isAgg41
  z46 := Yba.sizeOf41
  v46 := Yba.zeroValue41
  t51 := Yba.underlying55
  a51 := Yba.isAgg55
  z51 := Yba.sizeOf55
  v51 := Yba.zeroValue55
  t53 := Yba.underlying57
  a53 := Yba.isAgg57
  z53 := Yba.sizeOf57
  v53 := Yba.zeroValue57
  t131 := Yba.underlying43
  a131 := Yba.isAgg43
  z131 := Yba.sizeOf43
  v131 := Yba.zeroValue43
  t182 := Yba.underlying47
  a182 := Yba.isAgg47
  z182 := Yba.sizeOf47
  v182 := Yba.zeroValue47
  t183 := Yba.underlying48
  a183 := Yba.isAgg48
  z183 := Yba.sizeOf48
  v183 := Yba.zeroValue48
  t218 := Yba.underlying59
  a218 := Yba.isAgg59
  z218 := Yba.sizeOf59
  v218 := Yba.zeroValue59
  t222 := Yba.underlying63
  a222 := Yba.isAgg63
  z222 := Yba.sizeOf63
  v222 := Yba.zeroValue63
  t228 := Yba.underlying65
  a228 := Yba.isAgg65
  z228 := Yba.sizeOf65
  v228 := Yba.zeroValue65
  t229 := Yba.underlying66
  a229 := Yba.isAgg66
  z229 := Yba.sizeOf66
  v229 := Yba.zeroValue66 }
open Go.Sort Go.RowKit in
theorem Yba.slices_Sort_int (blk off cap : Nat) (zs : List Int) (w : World) (hH : Holds (Value.int .i64) w blk off zs.toArray) (hblk : blk < w.heap.size) (hsz : zs.length < 4611686018427387904) :
    Calls Yba.prog 9 #[.slice (some ⟨blk, off, none⟩) zs.length cap] w fun e w' =>
      e = .returned (.tuple #[]) ∧ ∃ n os, w' = grow (putRow (Value.int .i64) (Sort.ahead w n) blk off (zs.mergeSort fun x y => decide (x ≤ y)).toArray) os := Any.slices_Sort_int Yba.lays189 blk off cap zs w hH hblk hsz
def Yba.lays112_ren : Go.Shelf.Ren := ⟨fun | 112 => 10 | n => n, fun | 28 => 23 | 3 => 3 | 4 => 4 | 0 => 0 | n => n, fun | n => n⟩
theorem Yba.lays112 : Go.Proofs.Lays.n112 Yba.prog Yba.lays112_ren := {
  mixed := by kernel_rfl
  f112 := Yba.func10.trans (congrArg some (by kernel_rfl))
  t0 := Yba.underlying0
  a0 := Yba.isAgg0
  z0 := Yba.sizeOf0
  v0 := Yba.zeroValue0
  t3 := Yba.underlying3
  a3 := Yba.isAgg3
  z3 := Yba.sizeOf3
  v3 := Yba.zeroValue3
  t4 := Yba.underlying4
  a4 := Yba.isAgg4
  z4 := Yba.sizeOf4
  v4 := Yba.zeroValue4
  t28 := Yba.underlying23
  a28 := Yba.isAgg23
  z28 := Yba.sizeOf23
  v28 := Yba.zeroValue23 }
open Go.RowKit Go.Lib Go.Sort in
theorem Yba.slices_Reverse_int_empty (a : Option Addr) (cap : Nat) (w : World) :
    Calls Yba.prog 10 #[.slice a 0 cap] w fun e w' => e = .returned (.tuple #[]) ∧ w' = w := Any.slices_Reverse_int_empty Yba.lays112 a cap w
def Yba.lays111_ren : Go.Shelf.Ren := ⟨fun | 111 => 11 | n => n, fun | 28 => 23 | 3 => 3 | 4 => 4 | 0 => 0 | n => n, fun | n => n⟩
theorem Yba.lays111 : Go.Proofs.Lays.n111 Yba.prog Yba.lays111_ren := {
  mixed := by kernel_rfl
  f111 := Yba.func11.trans (congrArg some (by kernel_rfl))
  t0 := Yba.underlying0
  a0 := Yba.isAgg0
  z0 := Yba.sizeOf0
  v0 := Yba.zeroValue0
  t3 := Yba.underlying3
  a3 := Yba.isAgg3
  z3 := Yba.sizeOf3
  v3 := Yba.zeroValue3
  t4 := Yba.underlying4
  a4 := Yba.isAgg4
  z4 := Yba.sizeOf4
  v4 := Yba.zeroValue4
  t28 := Yba.underlying23
  a28 := Yba.isAgg23
  z28 := Yba.sizeOf23
  v28 := Yba.zeroValue23 }
open Go.RowKit Go.Lib in
theorem Yba.slices_Equal_int (b1 o1 n c b2 o2 m d : Nat) (xs ys : List Int) (w : World) (hx : n ≤ xs.length) (hy : m ≤ ys.length) (hbig : n ≤ 9223372036854775807) (hbig2 : m ≤ 9223372036854775807) (hc1 : ∀ j, j < xs.length → w.cell? ⟨b1, o1 + j, none⟩ = some (.int .i64 (xs.getD j 0))) (hc2 : ∀ j, j < ys.length → w.cell? ⟨b2, o2 + j, none⟩ = some (.int .i64 (ys.getD j 0))) :
    Calls Yba.prog 11 #[.slice (some ⟨b1, o1, none⟩) n c, .slice (some ⟨b2, o2, none⟩) m d] w fun e w' => e = .returned (.bool (xs.take n == ys.take m)) ∧ ∃ q, w' = w.drewN q := Any.slices_Equal_int Yba.lays111 b1 o1 n c b2 o2 m d xs ys w hx hy hbig hbig2 hc1 hc2
open Go.RowKit Go.Lib in
theorem Yba.slices_Equal_int_empty (a1 a2 : Option Addr) (c m d : Nat) (w : World) (hbig2 : m ≤ 9223372036854775807) :
    Calls Yba.prog 11 #[.slice a1 0 c, .slice a2 m d] w fun e w' => e = .returned (.bool (decide (m = 0))) ∧ w' = w := Any.slices_Equal_int_empty Yba.lays111 a1 a2 c m d w hbig2
def Yba.laysNm215_ren : Go.Shelf.Ren := ⟨fun | 15 => 4 | n => n, fun | 22 => 23 | 3 => 3 | 4 => 4 | n => n, fun | n => n⟩
theorem Yba.laysNm215 : Go.Proofs.Lays2.n15 Yba.prog Yba.laysNm215_ren := {
  mixed := by kernel_rfl
  f15 := Yba.func4.trans (congrArg some (by kernel_rfl))
  t3 := Yba.underlying3
  a3 := Yba.isAgg3
  z3 := Yba.sizeOf3
  v3 := Yba.zeroValue3
  t4 := Yba.underlying4
  a4 := Yba.isAgg4
  z4 := Yba.sizeOf4
  v4 := Yba.zeroValue4
  t22 := Yba.underlying23
  a22 := Yba.isAgg23
  z22 := Yba.sizeOf23
  v22 := Yba.zeroValue23
  i3 := by kernel_rfl }
open Go.RowKit Go.Lib in
theorem Yba.slices_Clone_int (b off n c : Nat) (zs : List Int) (w : World) (hz : n ≤ zs.length) (hbig : n * 8 ≤ 140737488355328) (hc : ∀ j, j < zs.length → w.cell? ⟨b, off + j, none⟩ = some (.int .i64 (zs.getD j 0))) :
    Calls Yba.prog 4 #[.slice (some ⟨b, off, none⟩) n c] w fun e w' => ∃ v', e = .returned v' ∧ w'.ownsRow w.heap.size 3 1 v' n ((zs.take n).map (Value.int .i64)) ∧ v' ≠ .slice none 0 0 ∧ Below w.heap.size w w' := Any.slices_Clone_int Yba.laysNm215 b off n c zs w hz hbig hc
open Go.RowKit Go.Lib in
theorem Yba.slices_Clone_int_nil (n c : Nat) (w : World) :
    Calls Yba.prog 4 #[.slice none n c] w fun e w' => e = .returned (.slice none 0 0) ∧ w' = w := Any.slices_Clone_int_nil Yba.laysNm215 n c w
open Go.RowKit Go.Lib in
theorem Yba.slices_Clone_int_zero (a : Addr) (c : Nat) (w : World) :
    Calls Yba.prog 4 #[.slice (some a) 0 c] w fun e w' => ∃ v', e = .returned v' ∧ w'.ownsRow w.heap.size 3 1 v' 0 [] ∧ v' ≠ .slice none 0 0 ∧ Below w.heap.size w w' := Any.slices_Clone_int_zero Yba.laysNm215 a c w
open Go.RowKit Go.Lib Go.Sort in
theorem Yba.slices_Reverse_int_cells (b off n c : Nat) (zs : List Int) (w : World) (hz : n ≤ zs.length) (hbig : n ≤ 9223372036854775807) (hc : ∀ j, j < zs.length → w.cell? ⟨b, off + j, none⟩ = some (.int .i64 (zs.getD j 0))) (hf : ∀ j, j < n → w.frozen? ⟨b, off + j, none⟩ = false) :
    Calls Yba.prog 10 #[.slice (some ⟨b, off, none⟩) n c] w fun e w' => e = .returned (.tuple #[]) ∧ ∃ q, w' = (w.drewN q).setCells b off ((zs.take n).reverse.map (Value.int .i64)) := Any.slices_Reverse_int_cells Yba.lays112 b off n c zs w hz hbig hc hf
def Yba.laysIns_ren : Go.Shelf.Ren := ⟨fun | 21 => 17 | 27 => 29 | 28 => 30 | 35 => 36 | 39 => 10 | n => n, fun | 22 => 23 | 3 => 3 | 4 => 4 | 0 => 0 | n => n, fun | n => n⟩
theorem Yba.laysIns : Go.Proofs.Lays2.n21 Yba.prog Yba.laysIns_ren := {
  mixed := by kernel_rfl
  f21 := Yba.func17.trans (congrArg some (by kernel_rfl))
  f27 := Yba.func29.trans (congrArg some (by kernel_rfl))
  f28 := Yba.func30.trans (congrArg some (by kernel_rfl))
  f35 := Yba.func36.trans (congrArg some (by kernel_rfl))
  f39 := Yba.func10.trans (congrArg some (by kernel_rfl))
  t0 := Yba.underlying0
  a0 := Yba.isAgg0
  z0 := Yba.sizeOf0
  v0 := Yba.zeroValue0
  t3 := Yba.underlying3
  a3 := Yba.isAgg3
  z3 := Yba.sizeOf3
  v3 := Yba.zeroValue3
  t4 := Yba.underlying4
  a4 := Yba.isAgg4
  z4 := Yba.sizeOf4
  v4 := Yba.zeroValue4
  t22 := Yba.underlying23
  a22 := Yba.isAgg23
  z22 := Yba.sizeOf23
  v22 := Yba.zeroValue23
  i3 := by kernel_rfl }
def Yba.laysBs_ren : Go.Shelf.Ren := ⟨fun | 14 => 16 | n => n, fun | 22 => 23 | 24 => 3 | 29 => 3 | 32 => 25 | 3 => 3 | 4 => 4 | 35 => 41 | 0 => 0 | n => n, fun | n => n⟩
theorem Yba.laysBs : Go.Proofs.SlLaysG2.n14 Yba.prog Yba.laysBs_ren := {
  mixed := by kernel_rfl
  f14 := ⟨Yba.f16.name, by decide, Yba.func16.trans (congrArg some (by kernel_rfl))⟩
  t0 := Yba.underlying0
  a0 := Yba.isAgg0
  z0 := Yba.sizeOf0
  v0 := Yba.zeroValue0
  t3 := Yba.underlying3
  a3 := Yba.isAgg3
  z3 := Yba.sizeOf3
  v3 := Yba.zeroValue3
  t4 := Yba.underlying4
  a4 := Yba.isAgg4
  z4 := Yba.sizeOf4
  v4 := Yba.zeroValue4
  t22 := Yba.underlying23
  a22 := Yba.isAgg23
  z22 := Yba.sizeOf23
  v22 := Yba.zeroValue23
  a24 := Yba.isAgg3
  z24 := Yba.sizeOf3
  a29 := Yba.isAgg3
  z29 := Yba.sizeOf3
  t32 := Yba.underlying25
  a32 := Yba.isAgg25
  z32 := Yba.sizeOf25
  v32 := Yba.zeroValue25
  t35 := Yba.underlying41
  a35 := Yba.isAgg41
  z35 := Yba.sizeOf41
  v35 := Yba.zeroValue41 }
end Go.Proofs
