/-
  Contracts of slices.Index (function 30), slices.Contains (27) and slices.Delete (28) at []int: the kit shelf laid at this dump, in plain words (tools lay-shelf.mjs, lay-plain.mjs; remarks struck).
-/
import Derived.Shelf.Slices.Turned
import Derived.Shelf.Slices.Delete
import Derived.Shelf.Slices.Cells
import Derived.Shelf.Slices.Empties
import Derived.Test.Qxb6602866aProg
namespace Go.Proofs
open Go.Shelf
def Try.lays108_ren : Go.Shelf.Ren := ⟨fun | 108 => 30 | n => n, fun | 28 => 34 | 3 => 3 | 0 => 0 | 4 => 4 | n => n, fun | n => n⟩
theorem Try.lays108 : Go.Proofs.Lays.n108 Try.prog Try.lays108_ren := {
  mixed := by kernel_rfl
  f108 := Try.func30.trans (congrArg some (by kernel_rfl))
  t0 := Try.underlying0
  a0 := Try.isAgg0
  z0 := Try.sizeOf0
  v0 := Try.zeroValue0
  t3 := Try.underlying3
  a3 := Try.isAgg3
  z3 := Try.sizeOf3
  v3 := Try.zeroValue3
  t4 := Try.underlying4
  a4 := Try.isAgg4
  z4 := Try.sizeOf4
  v4 := Try.zeroValue4
  t28 := Try.underlying34
  a28 := Try.isAgg34
  z28 := Try.sizeOf34
  v28 := Try.zeroValue34 }
open Go.Lib in
theorem Try.slices_Index_int (b off n c : Nat) (zs : List Int) (x : Int) (w : World) (hz : n ≤ zs.length) (hbig : n ≤ 9223372036854775807) (hc : ∀ j, j < zs.length → w.cell? ⟨b, off + j, none⟩ = some (.int .i64 (zs.getD j 0))) :
    Calls Try.prog 30 #[.slice (some ⟨b, off, none⟩) n c, .int .i64 x] w fun e w' => e = .returned (.int .i64 (Lib.idxOf (zs.take n) x)) ∧ w' = w := Any.slices_Index_int Try.lays108 b off n c zs x w hz hbig hc
open Go.Lib in
theorem Try.slices_Index_int_empty (a : Option Addr) (c : Nat) (x : Int) (w : World) :
    Calls Try.prog 30 #[.slice a 0 c, .int .i64 x] w fun e w' => e = .returned (.int .i64 (Lib.idxOf [] x)) ∧ w' = w := Any.slices_Index_int_empty Try.lays108 a c x w
def Try.lays107_ren : Go.Shelf.Ren := ⟨fun | 107 => 27 | 108 => 30 | n => n, fun | 28 => 34 | 3 => 3 | 4 => 4 | 0 => 0 | n => n, fun | n => n⟩
theorem Try.lays107 : Go.Proofs.Lays.n107 Try.prog Try.lays107_ren := {
  mixed := by kernel_rfl
  f107 := Try.func27.trans (congrArg some (by kernel_rfl))
  f108 := Try.func30.trans (congrArg some (by kernel_rfl))
  t0 := Try.underlying0
  a0 := Try.isAgg0
  z0 := Try.sizeOf0
  v0 := Try.zeroValue0
  t3 := Try.underlying3
  a3 := Try.isAgg3
  z3 := Try.sizeOf3
  v3 := Try.zeroValue3
  t4 := Try.underlying4
  a4 := Try.isAgg4
  z4 := Try.sizeOf4
  v4 := Try.zeroValue4
  t28 := Try.underlying34
  a28 := Try.isAgg34
  z28 := Try.sizeOf34
  v28 := Try.zeroValue34 }
open Go.Lib in
theorem Try.slices_Contains_int (b off n c : Nat) (zs : List Int) (x : Int) (w : World) (hz : n ≤ zs.length) (hbig : n ≤ 9223372036854775807) (hc : ∀ j, j < zs.length → w.cell? ⟨b, off + j, none⟩ = some (.int .i64 (zs.getD j 0))) :
    Calls Try.prog 27 #[.slice (some ⟨b, off, none⟩) n c, .int .i64 x] w fun e w' => e = .returned (.bool ((zs.take n).contains x)) ∧ w' = w := Any.slices_Contains_int Try.lays107 b off n c zs x w hz hbig hc
open Go.Lib in
theorem Try.slices_Contains_int_empty (a : Option Addr) (c : Nat) (x : Int) (w : World) :
    Calls Try.prog 27 #[.slice a 0 c, .int .i64 x] w fun e w' => e = .returned (.bool false) ∧ w' = w := Any.slices_Contains_int_empty Try.lays107 a c x w
def Try.laysNm223_ren : Go.Shelf.Ren := ⟨fun | 23 => 28 | n => n, fun | 22 => 34 | 3 => 3 | 4 => 4 | 0 => 0 | n => n, fun | n => n⟩
theorem Try.laysNm223 : Go.Proofs.Lays2.n23 Try.prog Try.laysNm223_ren := {
  mixed := by kernel_rfl
  f23 := Try.func28.trans (congrArg some (by kernel_rfl))
  t0 := Try.underlying0
  a0 := Try.isAgg0
  z0 := Try.sizeOf0
  v0 := Try.zeroValue0
  t3 := Try.underlying3
  a3 := Try.isAgg3
  z3 := Try.sizeOf3
  v3 := Try.zeroValue3
  t4 := Try.underlying4
  a4 := Try.isAgg4
  z4 := Try.sizeOf4
  v4 := Try.zeroValue4
  t22 := Try.underlying34
  a22 := Try.isAgg34
  z22 := Try.sizeOf34
  v22 := Try.zeroValue34
  i3 := by kernel_rfl }
open Go.RowKit Go.Lib Go.Sort in
theorem Try.slices_Delete_int_arr (blk off cap i j : Nat) (d : Array Int) (w : World) (hH : Holds encI w blk off d) (hcap : d.size ≤ cap) (hm : cap ≤ 9223372036854775807) (hij : i ≤ j) (hj : j ≤ d.size) :
    Calls Try.prog 28 #[.slice (some ⟨blk, off, none⟩) d.size cap, .int .i64 i, .int .i64 j] w fun e w' => e = .returned (.slice (some ⟨blk, off, none⟩) (d.size - (j - i)) cap) ∧ ∃ q, w' = putRow encI (Sort.ahead w q) blk off (d.toList.take i ++ d.toList.drop j ++ List.replicate (j - i) 0).toArray := Any.slices_Delete_int_arr Try.laysNm223 blk off cap i j d w hH hcap hm hij hj
open Go.RowKit Go.Lib Go.Sort in
theorem Try.slices_Delete_int (blk off cap i j : Nat) (zs : List Int) (w : World) (hH : Holds (Value.int .i64) w blk off zs.toArray) (hcap : zs.length ≤ cap) (hm : cap ≤ 9223372036854775807) (hij : i ≤ j) (hj : j ≤ zs.length) :
    Calls Try.prog 28 #[.slice (some ⟨blk, off, none⟩) zs.length cap, .int .i64 i, .int .i64 j] w fun e w' => e = .returned (.slice (some ⟨blk, off, none⟩) (zs.length - (j - i)) cap) ∧ ∃ q, w' = putRow (Value.int .i64) (Sort.ahead w q) blk off (zs.take i ++ zs.drop j ++ List.replicate (j - i) 0).toArray := Any.slices_Delete_int Try.laysNm223 blk off cap i j zs w hH hcap hm hij hj
open Go.RowKit Go.Lib Go.Sort in
theorem Try.slices_Delete_int_cells (b off n c i j : Nat) (zs : List Int) (w : World) (hz : n ≤ zs.length) (hcap : n ≤ c) (hm : c ≤ 9223372036854775807) (hij : i ≤ j) (hj : j ≤ n) (hc : ∀ j, j < zs.length → w.cell? ⟨b, off + j, none⟩ = some (.int .i64 (zs.getD j 0))) (hf : ∀ j, j < n → w.frozen? ⟨b, off + j, none⟩ = false) :
    Calls Try.prog 28 #[.slice (some ⟨b, off, none⟩) n c, .int .i64 i, .int .i64 j] w fun e w' => e = .returned (.slice (some ⟨b, off, none⟩) (n - (j - i)) c) ∧ ∃ q, w' = (w.drewN q).setCells b off (((zs.take n).take i ++ (zs.take n).drop j ++ List.replicate (j - i) 0).map (Value.int .i64)) := Any.slices_Delete_int_cells Try.laysNm223 b off n c i j zs w hz hcap hm hij hj hc hf
open Go.RowKit Go.Lib in
theorem Try.slices_Delete_int_empty (a : Option Addr) (c : Nat) (w : World) :
    Calls Try.prog 28 #[.slice a 0 c, .int .i64 0, .int .i64 0] w fun e w' => e = .returned (.slice a 0 c) ∧ w' = w := Any.slices_Delete_int_empty Try.laysNm223 a c w
end Go.Proofs
