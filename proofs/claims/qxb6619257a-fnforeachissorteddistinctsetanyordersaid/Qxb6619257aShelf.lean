/- The library's contracts (slices.Sort, Clone, Compact at []string) at this program, as the shelf's tools lay them, in plain words. -/
import Derived.Shelf.Sort.Plain
import Derived.Shelf.Slices.Clone
import Derived.Shelf.Slices.CompactS
import Derived.Shelf.Slices.In.SortNone
import Derived.Test.Qxb6619257aProg
namespace Go.Proofs.Qxb6619257a
open Go.Shelf
def Try.lays190_ren : Go.Shelf.Ren := ⟨fun | 190 => 21 | 125 => 26 | 258 => 25 | 128 => 36 | 129 => 37 | 302 => 27 | 303 => 28 | 304 => 29 | 305 => 30 | 306 => 31 | 307 => 32 | 308 => 33 | 309 => 34 | 310 => 35 | 333 => 38 | 329 => 39 | 330 => 40 | 334 => 41 | 335 => 42 | 336 => 43 | 344 => 44 | n => n, fun | 31 => 22 | 9 => 9 | 3 => 3 | 46 => 41 | 0 => 0 | 51 => 52 | 53 => 54 | 4 => 4 | 183 => 44 | 182 => 43 | 131 => 49 | 5 => 5 | 218 => 55 | 222 => 59 | 228 => 62 | 229 => 63 | n => n, fun | n => n⟩
theorem Try.lays190 : Go.Proofs.Lays.n190 Try.prog Try.lays190_ren := {
  mixed := by kernel_rfl
  f125 := Try.func26.trans (congrArg some (by kernel_rfl))
  f128 := Try.func36.trans (congrArg some (by kernel_rfl))
  f129 := Try.func37.trans (congrArg some (by kernel_rfl))
  f190 := Try.func21.trans (congrArg some (by kernel_rfl))
  f258 := Try.func25.trans (congrArg some (by kernel_rfl))
  f302 := Try.func27.trans (congrArg some (by kernel_rfl))
  f303 := Try.func28.trans (congrArg some (by kernel_rfl))
  f304 := Try.func29.trans (congrArg some (by kernel_rfl))
  f305 := Try.func30.trans (congrArg some (by kernel_rfl))
  f306 := Try.func31.trans (congrArg some (by kernel_rfl))
  f307 := Try.func32.trans (congrArg some (by kernel_rfl))
  f308 := Try.func33.trans (congrArg some (by kernel_rfl))
  f309 := Try.func34.trans (congrArg some (by kernel_rfl))
  f310 := Try.func35.trans (congrArg some (by kernel_rfl))
  f329 := Try.func39.trans (congrArg some (by kernel_rfl))
  f330 := Try.func40.trans (congrArg some (by kernel_rfl))
  f333 := Try.func38.trans (congrArg some (by kernel_rfl))
  f334 := Try.func41.trans (congrArg some (by kernel_rfl))
  f335 := Try.func42.trans (congrArg some (by kernel_rfl))
  f336 := Try.func43.trans (congrArg some (by kernel_rfl))
  f344 := Try.func44.trans (congrArg some (by kernel_rfl))
  t0 := Try.underlying0
  a0 := Try.isAgg0
  z0 := Try.sizeOf0
  v0 := Try.zeroValue0
  t3 := Try.underlying3
  a3 := Try.isAgg3
  z3 := Try.sizeOf3
  v3 := Try.zeroValue3
  t4 := Try.underlying4
  a4 := Try.isAgg4
  z4 := Try.sizeOf4
  v4 := Try.zeroValue4
  t5 := Try.underlying5
  a5 := Try.isAgg5
  z5 := Try.sizeOf5
  v5 := Try.zeroValue5
  t9 := Try.underlying9
  a9 := Try.isAgg9
  z9 := Try.sizeOf9
  v9 := Try.zeroValue9
  t31 := Try.underlying22
  a31 := Try.isAgg22
  z31 := Try.sizeOf22
  v31 := Try.zeroValue22
  t46 := Try.underlying41
  a46 := Try.isAgg41
  z46 := Try.sizeOf41
  v46 := Try.zeroValue41
  t51 := Try.underlying52
  a51 := Try.isAgg52
  z51 := Try.sizeOf52
  v51 := Try.zeroValue52
  t53 := Try.underlying54
  a53 := Try.isAgg54
  z53 := Try.sizeOf54
  v53 := Try.zeroValue54
  t131 := Try.underlying49
  a131 := Try.isAgg49
  z131 := Try.sizeOf49
  v131 := Try.zeroValue49
  t182 := Try.underlying43
  a182 := Try.isAgg43
  z182 := Try.sizeOf43
  v182 := Try.zeroValue43
  t183 := Try.underlying44
  a183 := Try.isAgg44
  z183 := Try.sizeOf44
  v183 := Try.zeroValue44
  t218 := Try.underlying55
  a218 := Try.isAgg55
  z218 := Try.sizeOf55
  v218 := Try.zeroValue55
  t222 := Try.underlying59
  a222 := Try.isAgg59
  z222 := Try.sizeOf59
  v222 := Try.zeroValue59
  t228 := Try.underlying62
  a228 := Try.isAgg62
  z228 := Try.sizeOf62
  v228 := Try.zeroValue62
  t229 := Try.underlying63
  a229 := Try.isAgg63
  z229 := Try.sizeOf63
  v229 := Try.zeroValue63 }
open Go.Sort Go.RowKit in
theorem Try.slices_Sort_string (blk off cap : Nat) (ss : List (List UInt8)) (w : World) (hH : Holds encStr w blk off ss.toArray) (hblk : blk < w.heap.size) (hsz : ss.length < 4611686018427387904) :
    Calls Try.prog 21 #[.slice (some ⟨blk, off, none⟩) ss.length cap] w fun e w' =>
      e = .returned (.tuple #[]) ∧ ∃ n os, w' = grow (putRow encStr (Sort.ahead w n) blk off (ss.mergeSort fun x y => decide (x ≤ y)).toArray) os := Any.slices_Sort_string Try.lays190 blk off cap ss w hH hblk hsz
def Try.laysNm216_ren : Go.Shelf.Ren := ⟨fun | 16 => 20 | n => n, fun | 24 => 22 | 9 => 9 | 4 => 4 | n => n, fun | n => n⟩
theorem Try.laysNm216 : Go.Proofs.Lays2.n16 Try.prog Try.laysNm216_ren := {
  mixed := by kernel_rfl
  f16 := Try.func20.trans (congrArg some (by kernel_rfl))
  t4 := Try.underlying4
  a4 := Try.isAgg4
  z4 := Try.sizeOf4
  v4 := Try.zeroValue4
  t9 := Try.underlying9
  a9 := Try.isAgg9
  z9 := Try.sizeOf9
  v9 := Try.zeroValue9
  t24 := Try.underlying22
  a24 := Try.isAgg22
  z24 := Try.sizeOf22
  v24 := Try.zeroValue22
  i9 := by kernel_rfl }
open Go.RowKit Go.Lib in
theorem Try.slices_Clone_string (b off n c : Nat) (zs : List ByteArray) (w : World) (hz : n ≤ zs.length) (hbig : n * 16 ≤ 140737488355328) (hc : ∀ j, j < zs.length → w.cell? ⟨b, off + j, none⟩ = some (.string (zs.getD j ByteArray.empty))) :
    Calls Try.prog 20 #[.slice (some ⟨b, off, none⟩) n c] w fun e w' => ∃ v', e = .returned v' ∧ w'.ownsRow w.heap.size 9 1 v' n ((zs.take n).map (Value.string)) ∧ v' ≠ .slice none 0 0 ∧ Below w.heap.size w w' := Any.slices_Clone_string Try.laysNm216 b off n c zs w hz hbig hc
open Go.RowKit Go.Lib in
theorem Try.slices_Clone_string_nil (n c : Nat) (w : World) :
    Calls Try.prog 20 #[.slice none n c] w fun e w' => e = .returned (.slice none 0 0) ∧ w' = w := Any.slices_Clone_string_nil Try.laysNm216 n c w
open Go.RowKit Go.Lib in
theorem Try.slices_Clone_string_zero (a : Addr) (c : Nat) (w : World) :
    Calls Try.prog 20 #[.slice (some a) 0 c] w fun e w' => ∃ v', e = .returned v' ∧ w'.ownsRow w.heap.size 9 1 v' 0 [] ∧ v' ≠ .slice none 0 0 ∧ Below w.heap.size w w' := Any.slices_Clone_string_zero Try.laysNm216 a c w
def Try.lays194_ren : Go.Shelf.Ren := ⟨fun | 194 => 22 | n => n, fun | 31 => 22 | 9 => 9 | 3 => 3 | 4 => 4 | 0 => 0 | n => n, fun | n => n⟩
theorem Try.lays194 : Go.Proofs.Lays.n194 Try.prog Try.lays194_ren := {
  mixed := by kernel_rfl
  f194 := Try.func22.trans (congrArg some (by kernel_rfl))
  t0 := Try.underlying0
  a0 := Try.isAgg0
  z0 := Try.sizeOf0
  v0 := Try.zeroValue0
  t3 := Try.underlying3
  a3 := Try.isAgg3
  z3 := Try.sizeOf3
  v3 := Try.zeroValue3
  t4 := Try.underlying4
  a4 := Try.isAgg4
  z4 := Try.sizeOf4
  v4 := Try.zeroValue4
  t9 := Try.underlying9
  a9 := Try.isAgg9
  z9 := Try.sizeOf9
  v9 := Try.zeroValue9
  t31 := Try.underlying22
  a31 := Try.isAgg22
  z31 := Try.sizeOf22
  v31 := Try.zeroValue22 }
open Go.RowKit Go.Lib Go.Sort in
theorem Try.slices_Compact_string_arr (blk off cap : Nat) (d : Array (List UInt8)) (w : World) (hH : Holds encStr w blk off d) (hsz : d.size ≤ 9223372036854775807) (hcap : d.size ≤ cap) :
    Calls Try.prog 22 #[.slice (some ⟨blk, off, none⟩) d.size cap] w fun e w' => e = .returned (.slice (some ⟨blk, off, none⟩) (compactUpTo d d.size).length cap) ∧ ∃ q, w' = putRow encStr (Sort.ahead w q) blk off (compactUpTo d d.size ++ List.replicate (d.size - (compactUpTo d d.size).length) []).toArray := Any.slices_Compact_string_arr Try.lays194 blk off cap d w hH hsz hcap
open Go.RowKit Go.Lib Go.Sort in
theorem Try.slices_Compact_string (blk off cap : Nat) (zs : List (List UInt8)) (w : World) (hH : Holds encStr w blk off zs.toArray) (hsz : zs.length ≤ 9223372036854775807) (hcap : zs.length ≤ cap) :
    Calls Try.prog 22 #[.slice (some ⟨blk, off, none⟩) zs.length cap] w fun e w' => e = .returned (.slice (some ⟨blk, off, none⟩) (Lib.compact zs).length cap) ∧ ∃ q, w' = putRow encStr (Sort.ahead w q) blk off (Lib.compact zs ++ List.replicate (zs.length - (Lib.compact zs).length) []).toArray := Any.slices_Compact_string Try.lays194 blk off cap zs w hH hsz hcap
open Go.RowKit Go.Lib Go.Sort in
theorem Try.slices_Compact_string_empty (a : Option Addr) (cap : Nat) (w : World) :
    Calls Try.prog 22 #[.slice a 0 cap] w fun e w' => e = .returned (.slice a 0 cap) ∧ w' = w := Any.slices_Compact_string_empty Try.lays194 a cap w
open Go.RowKit Go.Sort in
theorem Try.slices_Sort_string_none (p : Option Addr) (cap : Nat) (w : World) :
    Calls Try.prog 21 #[.slice p 0 cap] w fun e w' => e = .returned (.tuple #[]) ∧ w' = w := Any.slices_Sort_string_none Try.lays190 p cap w
end Go.Proofs.Qxb6619257a
