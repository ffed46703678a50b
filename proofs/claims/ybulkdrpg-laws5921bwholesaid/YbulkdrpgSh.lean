/-
  The laid contracts of slices.Index, Contains, Delete at strings, at this program (written by the guide's lay-shelf and lay-plain).
-/
import Derived.Shelf.Slices.Turned
import Derived.Ground.Names2Prog
import Derived.Shelf.Slices.Delete
import Derived.Shelf.Slices.Cells
import Derived.Shelf.Slices.Empties
import Derived.Test.YbulkdrpgProg
namespace Go.Proofs
open Go.Shelf
def Yba.lays109_ren : Go.Shelf.Ren := ⟨fun | 109 => 13 | n => n, fun | 31 => 82 | 9 => 9 | 3 => 3 | 0 => 0 | 4 => 4 | n => n, fun | n => n⟩
theorem Yba.lays109 : Go.Proofs.Lays.n109 Yba.prog Yba.lays109_ren := {
  mixed := by kernel_rfl
  f109 := Yba.func13.trans (congrArg some (by kernel_rfl))
  t0 := Yba.underlying0
  a0 := Yba.isAgg0
  z0 := Yba.sizeOf0
  v0 := Yba.zeroValue0
  t3 := Yba.underlying3
  a3 := Yba.isAgg3
  z3 := Yba.sizeOf3
  v3 := Yba.zeroValue3
  t4 := Yba.underlying4
  a4 := Yba.isAgg4
  z4 := Yba.sizeOf4
  v4 := Yba.zeroValue4
  t9 := Yba.underlying9
  a9 := Yba.isAgg9
  z9 := Yba.sizeOf9
  v9 := Yba.zeroValue9
  t31 := Yba.underlying82
  a31 := Yba.isAgg82
  z31 := Yba.sizeOf82
  v31 := Yba.zeroValue82 }
open Go.Lib in
theorem Yba.slices_Index_string (b off n c : Nat) (zs : List ByteArray) (x : ByteArray) (w : World) (hz : n ≤ zs.length) (hbig : n ≤ 9223372036854775807) (hc : ∀ j, j < zs.length → w.cell? ⟨b, off + j, none⟩ = some (.string (zs.getD j ByteArray.empty))) :
    Calls Yba.prog 13 #[.slice (some ⟨b, off, none⟩) n c, .string x] w fun e w' => e = .returned (.int .i64 (Lib.idxOfS (zs.take n) x)) ∧ w' = w := Any.slices_Index_string Yba.lays109 b off n c zs x w hz hbig hc
open Go.Lib in
theorem Yba.slices_Index_string_empty (a : Option Addr) (c : Nat) (x : ByteArray) (w : World) :
    Calls Yba.prog 13 #[.slice a 0 c, .string x] w fun e w' => e = .returned (.int .i64 (Lib.idxOfS [] x)) ∧ w' = w := Any.slices_Index_string_empty Yba.lays109 a c x w
def Yba.lays110_ren : Go.Shelf.Ren := ⟨fun | 110 => 17 | 109 => 13 | n => n, fun | 31 => 82 | 9 => 9 | 4 => 4 | 3 => 3 | 0 => 0 | n => n, fun | n => n⟩
theorem Yba.lays110 : Go.Proofs.Lays.n110 Yba.prog Yba.lays110_ren := {
  mixed := by kernel_rfl
  f109 := Yba.func13.trans (congrArg some (by kernel_rfl))
  f110 := Yba.func17.trans (congrArg some (by kernel_rfl))
  t0 := Yba.underlying0
  a0 := Yba.isAgg0
  z0 := Yba.sizeOf0
  v0 := Yba.zeroValue0
  t3 := Yba.underlying3
  a3 := Yba.isAgg3
  z3 := Yba.sizeOf3
  v3 := Yba.zeroValue3
  t4 := Yba.underlying4
  a4 := Yba.isAgg4
  z4 := Yba.sizeOf4
  v4 := Yba.zeroValue4
  t9 := Yba.underlying9
  a9 := Yba.isAgg9
  z9 := Yba.sizeOf9
  v9 := Yba.zeroValue9
  t31 := Yba.underlying82
  a31 := Yba.isAgg82
  z31 := Yba.sizeOf82
  v31 := Yba.zeroValue82 }
open Go.Lib in
theorem Yba.slices_Contains_string (b off n c : Nat) (zs : List ByteArray) (x : ByteArray) (w : World) (hz : n ≤ zs.length) (hbig : n ≤ 9223372036854775807) (hc : ∀ j, j < zs.length → w.cell? ⟨b, off + j, none⟩ = some (.string (zs.getD j ByteArray.empty))) :
    Calls Yba.prog 17 #[.slice (some ⟨b, off, none⟩) n c, .string x] w fun e w' => e = .returned (.bool (Lib.containsS (zs.take n) x)) ∧ w' = w := Any.slices_Contains_string Yba.lays110 b off n c zs x w hz hbig hc
open Go.Lib in
theorem Yba.slices_Contains_string_empty (a : Option Addr) (c : Nat) (x : ByteArray) (w : World) :
    Calls Yba.prog 17 #[.slice a 0 c, .string x] w fun e w' => e = .returned (.bool false) ∧ w' = w := Any.slices_Contains_string_empty Yba.lays110 a c x w
def Yba.laysNm224_ren : Go.Shelf.Ren := ⟨fun | 24 => 14 | n => n, fun | 24 => 82 | 9 => 9 | 3 => 3 | 4 => 4 | 0 => 0 | n => n, fun | n => n⟩
theorem Yba.laysNm224 : Go.Proofs.Lays2.n24 Yba.prog Yba.laysNm224_ren := {
  mixed := by kernel_rfl
  f24 := Yba.func14.trans (congrArg some (by kernel_rfl))
  t0 := Yba.underlying0
  a0 := Yba.isAgg0
  z0 := Yba.sizeOf0
  v0 := Yba.zeroValue0
  t3 := Yba.underlying3
  a3 := Yba.isAgg3
  z3 := Yba.sizeOf3
  v3 := Yba.zeroValue3
  t4 := Yba.underlying4
  a4 := Yba.isAgg4
  z4 := Yba.sizeOf4
  v4 := Yba.zeroValue4
  t9 := Yba.underlying9
  a9 := Yba.isAgg9
  z9 := Yba.sizeOf9
  v9 := Yba.zeroValue9
  t24 := Yba.underlying82
  a24 := Yba.isAgg82
  z24 := Yba.sizeOf82
  v24 := Yba.zeroValue82
  i9 := by kernel_rfl }
open Go.RowKit Go.Lib Go.Sort in
theorem Yba.slices_Delete_string_arr (blk off cap i j : Nat) (d : Array (List UInt8)) (w : World) (hH : Holds encStr w blk off d) (hcap : d.size ≤ cap) (hm : cap ≤ 9223372036854775807) (hij : i ≤ j) (hj : j ≤ d.size) :
    Calls Yba.prog 14 #[.slice (some ⟨blk, off, none⟩) d.size cap, .int .i64 i, .int .i64 j] w fun e w' => e = .returned (.slice (some ⟨blk, off, none⟩) (d.size - (j - i)) cap) ∧ ∃ q, w' = putRow encStr (Sort.ahead w q) blk off (d.toList.take i ++ d.toList.drop j ++ List.replicate (j - i) []).toArray := Any.slices_Delete_string_arr Yba.laysNm224 blk off cap i j d w hH hcap hm hij hj
open Go.RowKit Go.Lib Go.Sort in
theorem Yba.slices_Delete_string (blk off cap i j : Nat) (zs : List (List UInt8)) (w : World) (hH : Holds encStr w blk off zs.toArray) (hcap : zs.length ≤ cap) (hm : cap ≤ 9223372036854775807) (hij : i ≤ j) (hj : j ≤ zs.length) :
    Calls Yba.prog 14 #[.slice (some ⟨blk, off, none⟩) zs.length cap, .int .i64 i, .int .i64 j] w fun e w' => e = .returned (.slice (some ⟨blk, off, none⟩) (zs.length - (j - i)) cap) ∧ ∃ q, w' = putRow encStr (Sort.ahead w q) blk off (zs.take i ++ zs.drop j ++ List.replicate (j - i) []).toArray := Any.slices_Delete_string Yba.laysNm224 blk off cap i j zs w hH hcap hm hij hj
open Go.RowKit Go.Lib Go.Sort in
theorem Yba.slices_Delete_string_cells (b off n c i j : Nat) (Sx : Nat → ByteArray) (w : World) (hcap : n ≤ c) (hm : c ≤ 9223372036854775807) (hij : i ≤ j) (hj : j ≤ n) (hc : ∀ i, i < n → w.cell? ⟨b, off + i, none⟩ = some (.string (Sx i))) (hf : ∀ j, j < n → w.frozen? ⟨b, off + j, none⟩ = false) :
    Calls Yba.prog 14 #[.slice (some ⟨b, off, none⟩) n c, .int .i64 i, .int .i64 j] w fun e w' => e = .returned (.slice (some ⟨b, off, none⟩) (n - (j - i)) c) ∧ ∃ q, w' = (w.drewN q).setCells b off (((Lib.strsOf Sx n).take i ++ (Lib.strsOf Sx n).drop j ++ List.replicate (j - i) []).map encStr) := Any.slices_Delete_string_cells Yba.laysNm224 b off n c i j Sx w hcap hm hij hj hc hf
open Go.RowKit Go.Lib in
theorem Yba.slices_Delete_string_empty (a : Option Addr) (c : Nat) (w : World) :
    Calls Yba.prog 14 #[.slice a 0 c, .int .i64 0, .int .i64 0] w fun e w' => e = .returned (.slice a 0 c) ∧ w' = w := Any.slices_Delete_string_empty Yba.laysNm224 a c w
end Go.Proofs
