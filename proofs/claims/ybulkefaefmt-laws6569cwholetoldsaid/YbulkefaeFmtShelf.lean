/- The kit's shelf laid at this dump; the comments are left out. -/
import Derived.Shelf.Small.Bits
import Derived.Shelf.Strconv.Itoa0
import Derived.Ground.MnProg
import Derived.Shelf.Bin.Uvarint
import Derived.Shelf.Bin.UvarintEmpty
import Derived.Shelf.Sort.Plain
import Derived.Shelf.Unicode.Latin
import Derived.Shelf.Unicode.Is16White
import Derived.Shelf.Unicode.IsSpaceAny
import Derived.Shelf.Unicode.Is16WhiteD
import Derived.Shelf.Unicode.IsSpaceAnyD
import Derived.Shelf.Unicode.Is16Any
import Derived.Shelf.Unicode.Is32Any
import Derived.Shelf.Unicode.ExclAny
import Derived.Ground.Names2Prog
import Derived.Shelf.Slices.Clone
import Derived.Shelf.Slices.In.SortNone
import Derived.Shelf.Bytes.SlSearch0
import Derived.Ground.SlbCloneProg
import Derived.Shelf.Bytes.SlClone
import Derived.Shelf.Bytes.SlEqualAll
import Derived.Shelf.Bytes.Small
import Derived.Test.YbulkefaeFmtProg
namespace Go.Proofs
open Go.Shelf
def Ybaf.lays128_ren : Go.Shelf.Ren := ⟨fun | 128 => 29 | n => n, fun | 51 => 63 | 3 => 3 | 4 => 4 | 46 => 45 | 5 => 5 | 9 => 9 | n => n, fun | n => n⟩
theorem Ybaf.lays128 : Go.Proofs.Lays.n128 Ybaf.prog Ybaf.lays128_ren := {
  mixed := by kernel_rfl
  f128 := Ybaf.func29.trans (congrArg some (by kernel_rfl))
  t3 := Ybaf.underlying3
  a3 := Ybaf.isAgg3
  z3 := Ybaf.sizeOf3
  v3 := Ybaf.zeroValue3
  t4 := Ybaf.underlying4
  a4 := Ybaf.isAgg4
  z4 := Ybaf.sizeOf4
  v4 := Ybaf.zeroValue4
  t5 := Ybaf.underlying5
  a5 := Ybaf.isAgg5
  z5 := Ybaf.sizeOf5
  v5 := Ybaf.zeroValue5
  t9 := Ybaf.underlying9
  a9 := Ybaf.isAgg9
  z9 := Ybaf.sizeOf9
  v9 := Ybaf.zeroValue9
  t46 := Ybaf.underlying45
  a46 := Ybaf.isAgg45
  z46 := Ybaf.sizeOf45
  v46 := Ybaf.zeroValue45
  t51 := Ybaf.underlying63
  a51 := Ybaf.isAgg63
  z51 := Ybaf.sizeOf63
  v51 := Ybaf.zeroValue63 }
theorem Ybaf.bits_Len32 (x : Int) (w : World) (h0 : 0 ≤ x) (h1 : x ≤ 4294967295) :
    Calls Ybaf.prog 29 #[.int .u32 x] w fun e w' => e = .returned (.int .i64 (Lib.bitLen x.toNat)) ∧ w' = w := Any.bits_Len32 Ybaf.lays128 x w h0 h1
def Ybaf.lays125_ren : Go.Shelf.Ren := ⟨fun | 125 => 15 | 128 => 29 | 129 => 30 | n => n, fun | 46 => 45 | 3 => 3 | 51 => 63 | 53 => 27 | 4 => 4 | 5 => 5 | 9 => 9 | n => n, fun | n => n⟩
theorem Ybaf.lays125 : Go.Proofs.Lays.n125 Ybaf.prog Ybaf.lays125_ren := {
  mixed := by kernel_rfl
  f125 := Ybaf.func15.trans (congrArg some (by kernel_rfl))
  f128 := Ybaf.func29.trans (congrArg some (by kernel_rfl))
  f129 := Ybaf.func30.trans (congrArg some (by kernel_rfl))
  t3 := Ybaf.underlying3
  a3 := Ybaf.isAgg3
  z3 := Ybaf.sizeOf3
  v3 := Ybaf.zeroValue3
  t4 := Ybaf.underlying4
  a4 := Ybaf.isAgg4
  z4 := Ybaf.sizeOf4
  v4 := Ybaf.zeroValue4
  t5 := Ybaf.underlying5
  a5 := Ybaf.isAgg5
  z5 := Ybaf.sizeOf5
  v5 := Ybaf.zeroValue5
  t9 := Ybaf.underlying9
  a9 := Ybaf.isAgg9
  z9 := Ybaf.sizeOf9
  v9 := Ybaf.zeroValue9
  t46 := Ybaf.underlying45
  a46 := Ybaf.isAgg45
  z46 := Ybaf.sizeOf45
  v46 := Ybaf.zeroValue45
  t51 := Ybaf.underlying63
  a51 := Ybaf.isAgg63
  z51 := Ybaf.sizeOf63
  v51 := Ybaf.zeroValue63
  t53 := Ybaf.underlying27
  a53 := Ybaf.isAgg27
  z53 := Ybaf.sizeOf27
  v53 := Ybaf.zeroValue27 }
theorem Ybaf.bits_Len (x : Int) (w : World) (h0 : 0 ≤ x) (h1 : x ≤ 18446744073709551615) :
    Calls Ybaf.prog 15 #[.int .u64 x] w fun e w' => e = .returned (.int .i64 (Lib.bitLen x.toNat)) ∧ w' = w := Any.bits_Len Ybaf.lays125 x w h0 h1
def Ybaf.lays129_ren : Go.Shelf.Ren := ⟨fun | 129 => 30 | n => n, fun | 53 => 27 | 3 => 3 | 4 => 4 | 46 => 45 | 5 => 5 | 9 => 9 | n => n, fun | n => n⟩
theorem Ybaf.lays129 : Go.Proofs.Lays.n129 Ybaf.prog Ybaf.lays129_ren := {
  mixed := by kernel_rfl
  f129 := Ybaf.func30.trans (congrArg some (by kernel_rfl))
  t3 := Ybaf.underlying3
  a3 := Ybaf.isAgg3
  z3 := Ybaf.sizeOf3
  v3 := Ybaf.zeroValue3
  t4 := Ybaf.underlying4
  a4 := Ybaf.isAgg4
  z4 := Ybaf.sizeOf4
  v4 := Ybaf.zeroValue4
  t5 := Ybaf.underlying5
  a5 := Ybaf.isAgg5
  z5 := Ybaf.sizeOf5
  v5 := Ybaf.zeroValue5
  t9 := Ybaf.underlying9
  a9 := Ybaf.isAgg9
  z9 := Ybaf.sizeOf9
  v9 := Ybaf.zeroValue9
  t46 := Ybaf.underlying45
  a46 := Ybaf.isAgg45
  z46 := Ybaf.sizeOf45
  v46 := Ybaf.zeroValue45
  t53 := Ybaf.underlying27
  a53 := Ybaf.isAgg27
  z53 := Ybaf.sizeOf27
  v53 := Ybaf.zeroValue27 }
theorem Ybaf.bits_Len64 (x : Int) (w : World) (h0 : 0 ≤ x) (h1 : x ≤ 18446744073709551615) :
    Calls Ybaf.prog 30 #[.int .u64 x] w fun e w' => e = .returned (.int .i64 (Lib.bitLen x.toNat)) ∧ w' = w := Any.bits_Len64 Ybaf.lays129 x w h0 h1
def Ybaf.laysBin45_ren : Go.Shelf.Ren := ⟨fun | 45 => 48 | n => n, fun | 22 => 22 | 33 => 27 | 3 => 3 | 45 => 45 | 0 => 0 | 5 => 5 | 4 => 4 | n => n, fun | n => n⟩
theorem Ybaf.laysBin45 : Go.Proofs.LaysBin.n45 Ybaf.prog Ybaf.laysBin45_ren := {
  mixed := by kernel_rfl
  f45 := Ybaf.func48.trans (congrArg some (by kernel_rfl))
  t0 := Ybaf.underlying0
  a0 := Ybaf.isAgg0
  z0 := Ybaf.sizeOf0
  v0 := Ybaf.zeroValue0
  i0 := by kernel_rfl
  t3 := Ybaf.underlying3
  a3 := Ybaf.isAgg3
  z3 := Ybaf.sizeOf3
  v3 := Ybaf.zeroValue3
  i3 := by kernel_rfl
  t4 := Ybaf.underlying4
  a4 := Ybaf.isAgg4
  z4 := Ybaf.sizeOf4
  v4 := Ybaf.zeroValue4
  i4 := by kernel_rfl
  t5 := Ybaf.underlying5
  a5 := Ybaf.isAgg5
  z5 := Ybaf.sizeOf5
  v5 := Ybaf.zeroValue5
  i5 := by kernel_rfl
  t22 := Ybaf.underlying22
  a22 := Ybaf.isAgg22
  z22 := Ybaf.sizeOf22
  v22 := Ybaf.zeroValue22
  i22 := by kernel_rfl
  t33 := Ybaf.underlying27
  a33 := Ybaf.isAgg27
  z33 := Ybaf.sizeOf27
  v33 := Ybaf.zeroValue27
  i33 := by kernel_rfl
  t45 := Ybaf.underlying45
  a45 := Ybaf.isAgg45
  z45 := Ybaf.sizeOf45
  v45 := Ybaf.zeroValue45
  i45 := by kernel_rfl }
open Go.RowKit in
theorem Ybaf.binary_Uvarint (g o n c : Nat) (l : List UInt8) (w : World) (hl : l.length = n) (hcell : ∀ j (hj : j < l.length), w.cell? ⟨g, o + j, none⟩ = some (.int .u8 (l[j]).toNat)) :
    Calls Ybaf.prog 48 #[.slice (some ⟨g, o, none⟩) n c] w fun e w' => e = .returned (.tuple #[.int .u64 (Lib.uvarintDec l).1, .int .i64 (Lib.uvarintDec l).2]) ∧ w' = w := Any.binary_Uvarint Ybaf.laysBin45 g o n c l w hl hcell
open Go.RowKit in
theorem Ybaf.binary_Uvarint_empty (ao : Option Addr) (c : Nat) (w : World) :
    Calls Ybaf.prog 48 #[.slice ao 0 c] w fun e w' => e = .returned (.tuple #[.int .u64 (Lib.uvarintDec []).1, .int .i64 (Lib.uvarintDec []).2]) ∧ w' = w := Any.binary_Uvarint_empty Ybaf.laysBin45 ao c w
def Ybaf.lays190_ren : Go.Shelf.Ren := ⟨fun | 190 => 5 | 125 => 15 | 258 => 14 | 128 => 29 | 129 => 30 | 302 => 20 | 303 => 21 | 304 => 22 | 305 => 23 | 306 => 24 | 307 => 25 | 308 => 26 | 309 => 27 | 310 => 28 | 333 => 37 | 329 => 38 | 330 => 39 | 334 => 40 | 335 => 41 | 336 => 42 | 344 => 47 | n => n, fun | 31 => 23 | 9 => 9 | 3 => 3 | 46 => 45 | 0 => 0 | 51 => 63 | 53 => 27 | 4 => 4 | 183 => 55 | 182 => 54 | 131 => 60 | 5 => 5 | 218 => 71 | 222 => 75 | 228 => 79 | 229 => 80 | n => n, fun | n => n⟩
theorem Ybaf.lays190 : Go.Proofs.Lays.n190 Ybaf.prog Ybaf.lays190_ren := {
  mixed := by kernel_rfl
  f125 := Ybaf.func15.trans (congrArg some (by kernel_rfl))
  f128 := Ybaf.func29.trans (congrArg some (by kernel_rfl))
  f129 := Ybaf.func30.trans (congrArg some (by kernel_rfl))
  f190 := Ybaf.func5.trans (congrArg some (by kernel_rfl))
  f258 := Ybaf.func14.trans (congrArg some (by kernel_rfl))
  f302 := Ybaf.func20.trans (congrArg some (by kernel_rfl))
  f303 := Ybaf.func21.trans (congrArg some (by kernel_rfl))
  f304 := Ybaf.func22.trans (congrArg some (by kernel_rfl))
  f305 := Ybaf.func23.trans (congrArg some (by kernel_rfl))
  f306 := Ybaf.func24.trans (congrArg some (by kernel_rfl))
  f307 := Ybaf.func25.trans (congrArg some (by kernel_rfl))
  f308 := Ybaf.func26.trans (congrArg some (by kernel_rfl))
  f309 := Ybaf.func27.trans (congrArg some (by kernel_rfl))
  f310 := Ybaf.func28.trans (congrArg some (by kernel_rfl))
  f329 := Ybaf.func38.trans (congrArg some (by kernel_rfl))
  f330 := Ybaf.func39.trans (congrArg some (by kernel_rfl))
  f333 := Ybaf.func37.trans (congrArg some (by kernel_rfl))
  f334 := Ybaf.func40.trans (congrArg some (by kernel_rfl))
  f335 := Ybaf.func41.trans (congrArg some (by kernel_rfl))
  f336 := Ybaf.func42.trans (congrArg some (by kernel_rfl))
  f344 := Ybaf.func47.trans (congrArg some (by kernel_rfl))
  t0 := Ybaf.underlying0
  a0 := Ybaf.isAgg0
  z0 := Ybaf.sizeOf0
  v0 := Ybaf.zeroValue0
  t3 := Ybaf.underlying3
  a3 := Ybaf.isAgg3
  z3 := Ybaf.sizeOf3
  v3 := Ybaf.zeroValue3
  t4 := Ybaf.underlying4
  a4 := Ybaf.isAgg4
  z4 := Ybaf.sizeOf4
  v4 := Ybaf.zeroValue4
  t5 := Ybaf.underlying5
  a5 := Ybaf.isAgg5
  z5 := Ybaf.sizeOf5
  v5 := Ybaf.zeroValue5
  t9 := Ybaf.underlying9
  a9 := Ybaf.isAgg9
  z9 := Ybaf.sizeOf9
  v9 := Ybaf.zeroValue9
  t31 := Ybaf.underlying23
  a31 := Ybaf.isAgg23
  z31 := Ybaf.sizeOf23
  v31 := Ybaf.zeroValue23
  t46 := Ybaf.underlying45
  a46 := Ybaf.isAgg45
  z46 := Ybaf.sizeOf45
  v46 := Ybaf.zeroValue45
  t51 := Ybaf.underlying63
  a51 := Ybaf.isAgg63
  z51 := Ybaf.sizeOf63
  v51 := Ybaf.zeroValue63
  t53 := Ybaf.underlying27
  a53 := Ybaf.isAgg27
  z53 := Ybaf.sizeOf27
  v53 := Ybaf.zeroValue27
  t131 := Ybaf.underlying60
  a131 := Ybaf.isAgg60
  z131 := Ybaf.sizeOf60
  v131 := Ybaf.zeroValue60
  t182 := Ybaf.underlying54
  a182 := Ybaf.isAgg54
  z182 := Ybaf.sizeOf54
  v182 := Ybaf.zeroValue54
  t183 := Ybaf.underlying55
  a183 := Ybaf.isAgg55
  z183 := Ybaf.sizeOf55
  v183 := Ybaf.zeroValue55
  t218 := Ybaf.underlying71
  a218 := Ybaf.isAgg71
  z218 := Ybaf.sizeOf71
  v218 := Ybaf.zeroValue71
  t222 := Ybaf.underlying75
  a222 := Ybaf.isAgg75
  z222 := Ybaf.sizeOf75
  v222 := Ybaf.zeroValue75
  t228 := Ybaf.underlying79
  a228 := Ybaf.isAgg79
  z228 := Ybaf.sizeOf79
  v228 := Ybaf.zeroValue79
  t229 := Ybaf.underlying80
  a229 := Ybaf.isAgg80
  z229 := Ybaf.sizeOf80
  v229 := Ybaf.zeroValue80 }
open Go.Sort Go.RowKit in
theorem Ybaf.slices_Sort_string (blk off cap : Nat) (ss : List (List UInt8)) (w : World) (hH : Holds encStr w blk off ss.toArray) (hblk : blk < w.heap.size) (hsz : ss.length < 4611686018427387904) :
    Calls Ybaf.prog 5 #[.slice (some ⟨blk, off, none⟩) ss.length cap] w fun e w' =>
      e = .returned (.tuple #[]) ∧ ∃ n os, w' = grow (putRow encStr (Sort.ahead w n) blk off (ss.mergeSort fun x y => decide (x ≤ y)).toArray) os := Any.slices_Sort_string Ybaf.lays190 blk off cap ss w hH hblk hsz
def Ybaf.lays199_ren : Go.Shelf.Ren := ⟨fun | 199 => 44 | 261 => 50 | 311 => 51 | 312 => 52 | n => n, fun | 21 => 21 | 4 => 4 | 51 => 63 | 141 => 86 | 0 => 0 | 196 => 93 | 193 => 90 | 3 => 3 | 198 => 96 | 49 => 94 | 194 => 91 | 201 => 99 | 226 => 101 | 46 => 45 | 227 => 102 | n => n, fun | 6 => 1 | n => n⟩
theorem Ybaf.lays199 : Go.Proofs.Lays.n199 Ybaf.prog Ybaf.lays199_ren := {
  mixed := by kernel_rfl
  f199 := Ybaf.func44.trans (congrArg some (by kernel_rfl))
  f261 := Ybaf.func50.trans (congrArg some (by kernel_rfl))
  f311 := Ybaf.func51.trans (congrArg some (by kernel_rfl))
  f312 := Ybaf.func52.trans (congrArg some (by kernel_rfl))
  t0 := Ybaf.underlying0
  a0 := Ybaf.isAgg0
  z0 := Ybaf.sizeOf0
  v0 := Ybaf.zeroValue0
  t3 := Ybaf.underlying3
  a3 := Ybaf.isAgg3
  z3 := Ybaf.sizeOf3
  v3 := Ybaf.zeroValue3
  t4 := Ybaf.underlying4
  a4 := Ybaf.isAgg4
  z4 := Ybaf.sizeOf4
  v4 := Ybaf.zeroValue4
  t21 := Ybaf.underlying21
  a21 := Ybaf.isAgg21
  z21 := Ybaf.sizeOf21
  v21 := Ybaf.zeroValue21
  t46 := Ybaf.underlying45
  a46 := Ybaf.isAgg45
  z46 := Ybaf.sizeOf45
  v46 := Ybaf.zeroValue45
  t49 := Ybaf.underlying94
  a49 := Ybaf.isAgg94
  z49 := Ybaf.sizeOf94
  v49 := Ybaf.zeroValue94
  t51 := Ybaf.underlying63
  a51 := Ybaf.isAgg63
  z51 := Ybaf.sizeOf63
  v51 := Ybaf.zeroValue63
  t141 := Ybaf.underlying86
  a141 := Ybaf.isAgg86
  z141 := Ybaf.sizeOf86
  v141 := Ybaf.zeroValue86
  t193 := Ybaf.underlying90
  a193 := Ybaf.isAgg90
  z193 := Ybaf.sizeOf90
  v193 := Ybaf.zeroValue90
  t194 := Ybaf.underlying91
  a194 := Ybaf.isAgg91
  z194 := Ybaf.sizeOf91
  v194 := Ybaf.zeroValue91
  t196 := Ybaf.underlying93
  a196 := Ybaf.isAgg93
  z196 := Ybaf.sizeOf93
  v196 := Ybaf.zeroValue93
  t198 := Ybaf.underlying96
  a198 := Ybaf.isAgg96
  z198 := Ybaf.sizeOf96
  v198 := Ybaf.zeroValue96
  t201 := Ybaf.underlying99
  a201 := Ybaf.isAgg99
  z201 := Ybaf.sizeOf99
  v201 := Ybaf.zeroValue99
  t226 := Ybaf.underlying101
  a226 := Ybaf.isAgg101
  z226 := Ybaf.sizeOf101
  v226 := Ybaf.zeroValue101
  t227 := Ybaf.underlying102
  a227 := Ybaf.isAgg102
  z227 := Ybaf.sizeOf102
  v227 := Ybaf.zeroValue102
  g6 := by kernel_rfl }
open Go.RowKit Go.Lib in
theorem Ybaf.unicode_IsSpace (r : Int) (w : World) (h0 : 0 ≤ r) (h : r ≤ 255) :
    Calls Ybaf.prog 44 #[.int .i32 r] w fun e w' => e = .returned (.bool (Lib.isSpaceL r)) ∧ w' = w := Any.unicode_IsSpace Ybaf.lays199 r w h0 h
def Ybaf.lays311_ren : Go.Shelf.Ren := ⟨fun | 311 => 51 | n => n, fun | 193 => 90 | 49 => 94 | 4 => 4 | 3 => 3 | 0 => 0 | 226 => 101 | 198 => 96 | 46 => 45 | n => n, fun | n => n⟩
theorem Ybaf.lays311 : Go.Proofs.Lays.n311 Ybaf.prog Ybaf.lays311_ren := {
  mixed := by kernel_rfl
  f311 := Ybaf.func51.trans (congrArg some (by kernel_rfl))
  t0 := Ybaf.underlying0
  a0 := Ybaf.isAgg0
  z0 := Ybaf.sizeOf0
  v0 := Ybaf.zeroValue0
  t3 := Ybaf.underlying3
  a3 := Ybaf.isAgg3
  z3 := Ybaf.sizeOf3
  v3 := Ybaf.zeroValue3
  t4 := Ybaf.underlying4
  a4 := Ybaf.isAgg4
  z4 := Ybaf.sizeOf4
  v4 := Ybaf.zeroValue4
  t46 := Ybaf.underlying45
  a46 := Ybaf.isAgg45
  z46 := Ybaf.sizeOf45
  v46 := Ybaf.zeroValue45
  t49 := Ybaf.underlying94
  a49 := Ybaf.isAgg94
  z49 := Ybaf.sizeOf94
  v49 := Ybaf.zeroValue94
  t193 := Ybaf.underlying90
  a193 := Ybaf.isAgg90
  z193 := Ybaf.sizeOf90
  v193 := Ybaf.zeroValue90
  t198 := Ybaf.underlying96
  a198 := Ybaf.isAgg96
  z198 := Ybaf.sizeOf96
  v198 := Ybaf.zeroValue96
  t226 := Ybaf.underlying101
  a226 := Ybaf.isAgg101
  z226 := Ybaf.sizeOf101
  v226 := Ybaf.zeroValue101 }
open Go.RowKit Go.Lib in
theorem Ybaf.unicode_is16_white (R oR : Nat) (z : Nat) (w : World) (hz : z < 65536) (hz0 : 255 < z) (c6 : w.cell? ⟨R, oR + 6, none⟩ = some (.int .u16 160)) (c7 : w.cell? ⟨R, oR + 7, none⟩ = some (.int .u16 5760)) (c8 : w.cell? ⟨R, oR + 8, none⟩ = some (.int .u16 5600)) (c9 : w.cell? ⟨R, oR + 9, none⟩ = some (.int .u16 8192)) (c10 : w.cell? ⟨R, oR + 10, none⟩ = some (.int .u16 8202)) (c11 : w.cell? ⟨R, oR + 11, none⟩ = some (.int .u16 1)) (c12 : w.cell? ⟨R, oR + 12, none⟩ = some (.int .u16 8232)) (c13 : w.cell? ⟨R, oR + 13, none⟩ = some (.int .u16 8233)) (c14 : w.cell? ⟨R, oR + 14, none⟩ = some (.int .u16 1)) (c15 : w.cell? ⟨R, oR + 15, none⟩ = some (.int .u16 8239)) (c16 : w.cell? ⟨R, oR + 16, none⟩ = some (.int .u16 8287)) (c17 : w.cell? ⟨R, oR + 17, none⟩ = some (.int .u16 48)) (c18 : w.cell? ⟨R, oR + 18, none⟩ = some (.int .u16 12288)) (c19 : w.cell? ⟨R, oR + 19, none⟩ = some (.int .u16 12288)) (c20 : w.cell? ⟨R, oR + 20, none⟩ = some (.int .u16 1)) :
    Calls Ybaf.prog 51 #[.slice (some ⟨R, oR + 6, none⟩) 5 5, .int .u16 z] w fun e w' => e = .returned (.bool (Lib.isSpaceR z)) ∧ Below w.heap.size w w' := Any.unicode_is16_white Ybaf.lays311 R oR z w hz hz0 c6 c7 c8 c9 c10 c11 c12 c13 c14 c15 c16 c17 c18 c19 c20
def Ybaf.lays261_ren : Go.Shelf.Ren := ⟨fun | 261 => 50 | 311 => 51 | 312 => 52 | n => n, fun | 141 => 86 | 21 => 21 | 4 => 4 | 0 => 0 | 196 => 93 | 193 => 90 | 3 => 3 | 51 => 63 | 198 => 96 | 49 => 94 | 194 => 91 | 201 => 99 | 226 => 101 | 46 => 45 | 227 => 102 | n => n, fun | n => n⟩
theorem Ybaf.lays261 : Go.Proofs.Lays.n261 Ybaf.prog Ybaf.lays261_ren := {
  mixed := by kernel_rfl
  f261 := Ybaf.func50.trans (congrArg some (by kernel_rfl))
  f311 := Ybaf.func51.trans (congrArg some (by kernel_rfl))
  f312 := Ybaf.func52.trans (congrArg some (by kernel_rfl))
  t0 := Ybaf.underlying0
  a0 := Ybaf.isAgg0
  z0 := Ybaf.sizeOf0
  v0 := Ybaf.zeroValue0
  t3 := Ybaf.underlying3
  a3 := Ybaf.isAgg3
  z3 := Ybaf.sizeOf3
  v3 := Ybaf.zeroValue3
  t4 := Ybaf.underlying4
  a4 := Ybaf.isAgg4
  z4 := Ybaf.sizeOf4
  v4 := Ybaf.zeroValue4
  t21 := Ybaf.underlying21
  a21 := Ybaf.isAgg21
  z21 := Ybaf.sizeOf21
  v21 := Ybaf.zeroValue21
  t46 := Ybaf.underlying45
  a46 := Ybaf.isAgg45
  z46 := Ybaf.sizeOf45
  v46 := Ybaf.zeroValue45
  t49 := Ybaf.underlying94
  a49 := Ybaf.isAgg94
  z49 := Ybaf.sizeOf94
  v49 := Ybaf.zeroValue94
  t51 := Ybaf.underlying63
  a51 := Ybaf.isAgg63
  z51 := Ybaf.sizeOf63
  v51 := Ybaf.zeroValue63
  t141 := Ybaf.underlying86
  a141 := Ybaf.isAgg86
  z141 := Ybaf.sizeOf86
  v141 := Ybaf.zeroValue86
  t193 := Ybaf.underlying90
  a193 := Ybaf.isAgg90
  z193 := Ybaf.sizeOf90
  v193 := Ybaf.zeroValue90
  t194 := Ybaf.underlying91
  a194 := Ybaf.isAgg91
  z194 := Ybaf.sizeOf91
  v194 := Ybaf.zeroValue91
  t196 := Ybaf.underlying93
  a196 := Ybaf.isAgg93
  z196 := Ybaf.sizeOf93
  v196 := Ybaf.zeroValue93
  t198 := Ybaf.underlying96
  a198 := Ybaf.isAgg96
  z198 := Ybaf.sizeOf96
  v198 := Ybaf.zeroValue96
  t201 := Ybaf.underlying99
  a201 := Ybaf.isAgg99
  z201 := Ybaf.sizeOf99
  v201 := Ybaf.zeroValue99
  t226 := Ybaf.underlying101
  a226 := Ybaf.isAgg101
  z226 := Ybaf.sizeOf101
  v226 := Ybaf.zeroValue101
  t227 := Ybaf.underlying102
  a227 := Ybaf.isAgg102
  z227 := Ybaf.sizeOf102
  v227 := Ybaf.zeroValue102 }
open Go.RowKit Go.Lib in
theorem Ybaf.unicode_isExcludingLatin_white (T oT R oR : Nat) (r : Int) (w : World) (hlo : -2147483648 ≤ r) (hhi : r ≤ 2147483647) (hr : r < 0 ∨ 255 < r) (h2 : w.cell? ⟨T, oT, none⟩ = some (.slice (some ⟨R, oR, none⟩) 7 7)) (h3 : w.cell? ⟨T, oT + 1, none⟩ = some (.slice none 0 0)) (h4 : w.cell? ⟨T, oT + 2, none⟩ = some (.int .i64 2)) (h5 : ∀ i, i < 21 → w.cell? ⟨R, oR + i, none⟩ = some (.int .u16 (whiteT.getD i 0))) :
    Calls Ybaf.prog 50 #[.pointer (some ⟨T, oT, none⟩), .int .i32 r] w fun e w' => e = .returned (.bool (Lib.isSpaceZ r)) ∧ Below w.heap.size w w' := Any.unicode_isExcludingLatin_white Ybaf.lays261 T oT R oR r w hlo hhi hr h2 h3 h4 h5
open Go.RowKit Go.Lib in
theorem Ybaf.unicode_IsSpace_any (r : Int) (w : World) (hlo : -2147483648 ≤ r) (hhi : r ≤ 2147483647) (hW : Lib.WhiteTab 1 w) :
    Calls Ybaf.prog 44 #[.int .i32 r] w fun e w' => e = .returned (.bool (Lib.isSpaceZ r)) ∧ Below w.heap.size w w' := Any.unicode_IsSpace_any Ybaf.lays199 r w hlo hhi hW
open Go.RowKit Go.Lib in
theorem Ybaf.unicode_is16_white_d (R oR : Nat) (z : Nat) (w : World) (hz : z < 65536) (hz0 : 255 < z) (c6 : w.cell? ⟨R, oR + 6, none⟩ = some (.int .u16 160)) (c7 : w.cell? ⟨R, oR + 7, none⟩ = some (.int .u16 5760)) (c8 : w.cell? ⟨R, oR + 8, none⟩ = some (.int .u16 5600)) (c9 : w.cell? ⟨R, oR + 9, none⟩ = some (.int .u16 8192)) (c10 : w.cell? ⟨R, oR + 10, none⟩ = some (.int .u16 8202)) (c11 : w.cell? ⟨R, oR + 11, none⟩ = some (.int .u16 1)) (c12 : w.cell? ⟨R, oR + 12, none⟩ = some (.int .u16 8232)) (c13 : w.cell? ⟨R, oR + 13, none⟩ = some (.int .u16 8233)) (c14 : w.cell? ⟨R, oR + 14, none⟩ = some (.int .u16 1)) (c15 : w.cell? ⟨R, oR + 15, none⟩ = some (.int .u16 8239)) (c16 : w.cell? ⟨R, oR + 16, none⟩ = some (.int .u16 8287)) (c17 : w.cell? ⟨R, oR + 17, none⟩ = some (.int .u16 48)) (c18 : w.cell? ⟨R, oR + 18, none⟩ = some (.int .u16 12288)) (c19 : w.cell? ⟨R, oR + 19, none⟩ = some (.int .u16 12288)) (c20 : w.cell? ⟨R, oR + 20, none⟩ = some (.int .u16 1)) :
    Calls Ybaf.prog 51 #[.slice (some ⟨R, oR + 6, none⟩) 5 5, .int .u16 z] w fun e w' => e = .returned (.bool (Lib.isSpaceR z)) ∧ ∃ q, w' = w.drewN q := Any.unicode_is16_white_d Ybaf.lays311 R oR z w hz hz0 c6 c7 c8 c9 c10 c11 c12 c13 c14 c15 c16 c17 c18 c19 c20
open Go.RowKit Go.Lib in
theorem Ybaf.unicode_isExcludingLatin_white_d (T oT R oR : Nat) (r : Int) (w : World) (hlo : -2147483648 ≤ r) (hhi : r ≤ 2147483647) (hr : r < 0 ∨ 255 < r) (h2 : w.cell? ⟨T, oT, none⟩ = some (.slice (some ⟨R, oR, none⟩) 7 7)) (h3 : w.cell? ⟨T, oT + 1, none⟩ = some (.slice none 0 0)) (h4 : w.cell? ⟨T, oT + 2, none⟩ = some (.int .i64 2)) (h5 : ∀ i, i < 21 → w.cell? ⟨R, oR + i, none⟩ = some (.int .u16 (whiteT.getD i 0))) :
    Calls Ybaf.prog 50 #[.pointer (some ⟨T, oT, none⟩), .int .i32 r] w fun e w' => e = .returned (.bool (Lib.isSpaceZ r)) ∧ ∃ q, w' = w.drewN q := Any.unicode_isExcludingLatin_white_d Ybaf.lays261 T oT R oR r w hlo hhi hr h2 h3 h4 h5
open Go.RowKit Go.Lib in
theorem Ybaf.unicode_IsSpace_any_d (r : Int) (w : World) (hlo : -2147483648 ≤ r) (hhi : r ≤ 2147483647) (hW : Lib.WhiteTab 1 w) :
    Calls Ybaf.prog 44 #[.int .i32 r] w fun e w' => e = .returned (.bool (Lib.isSpaceZ r)) ∧ ∃ q, w' = w.drewN q := Any.unicode_IsSpace_any_d Ybaf.lays199 r w hlo hhi hW
open Go.RowKit Go.Lib in
theorem Ybaf.unicode_is16_any (T : Array Rg) (R oR cap : Nat) (z : Nat) (w : World) (hz : z < 65536) (hT : RgTab .u16 R oR T w) (hok : RgOk 65536 T) (hn : T.size ≤ 1000000000) :
    Calls Ybaf.prog 51 #[.slice (some ⟨R, oR, none⟩) T.size cap, .int .u16 z] w fun e w' => e = .returned (.bool (is16Go T z)) ∧ ∃ q, w' = w.drewN q := Any.unicode_is16_any Ybaf.lays311 T R oR cap z w hz hT hok hn
def Ybaf.lays312_ren : Go.Shelf.Ren := ⟨fun | 312 => 52 | n => n, fun | 194 => 91 | 51 => 63 | 4 => 4 | 3 => 3 | 0 => 0 | 227 => 102 | 201 => 99 | 46 => 45 | n => n, fun | n => n⟩
theorem Ybaf.lays312 : Go.Proofs.Lays.n312 Ybaf.prog Ybaf.lays312_ren := {
  mixed := by kernel_rfl
  f312 := Ybaf.func52.trans (congrArg some (by kernel_rfl))
  t0 := Ybaf.underlying0
  a0 := Ybaf.isAgg0
  z0 := Ybaf.sizeOf0
  v0 := Ybaf.zeroValue0
  t3 := Ybaf.underlying3
  a3 := Ybaf.isAgg3
  z3 := Ybaf.sizeOf3
  v3 := Ybaf.zeroValue3
  t4 := Ybaf.underlying4
  a4 := Ybaf.isAgg4
  z4 := Ybaf.sizeOf4
  v4 := Ybaf.zeroValue4
  t46 := Ybaf.underlying45
  a46 := Ybaf.isAgg45
  z46 := Ybaf.sizeOf45
  v46 := Ybaf.zeroValue45
  t51 := Ybaf.underlying63
  a51 := Ybaf.isAgg63
  z51 := Ybaf.sizeOf63
  v51 := Ybaf.zeroValue63
  t194 := Ybaf.underlying91
  a194 := Ybaf.isAgg91
  z194 := Ybaf.sizeOf91
  v194 := Ybaf.zeroValue91
  t201 := Ybaf.underlying99
  a201 := Ybaf.isAgg99
  z201 := Ybaf.sizeOf99
  v201 := Ybaf.zeroValue99
  t227 := Ybaf.underlying102
  a227 := Ybaf.isAgg102
  z227 := Ybaf.sizeOf102
  v227 := Ybaf.zeroValue102 }
open Go.RowKit Go.Lib in
theorem Ybaf.unicode_is32_any (T : Array Rg) (R oR cap : Nat) (z : Nat) (w : World) (hz : z < 4294967296) (hT : RgTab .u32 R oR T w) (hok : RgOk 4294967296 T) (hn : T.size ≤ 1000000000) :
    Calls Ybaf.prog 52 #[.slice (some ⟨R, oR, none⟩) T.size cap, .int .u32 z] w fun e w' => e = .returned (.bool (is32Go T z)) ∧ Below w.heap.size w w' := Any.unicode_is32_any Ybaf.lays312 T R oR cap z w hz hT hok hn
open Go.RowKit Go.Lib in
theorem Ybaf.unicode_isExcludingLatin_any (Tb oT : Nat) (T : RTab) (r : Int) (w : World) (hlo : -2147483648 ≤ r) (hhi : r ≤ 2147483647) (hA : RTabAt Tb oT T w) (hok : RTabOk T) :
    Calls Ybaf.prog 50 #[.pointer (some ⟨Tb, oT, none⟩), .int .i32 r] w fun e w' => e = .returned (.bool (exclGo T r)) ∧ Below w.heap.size w w' := Any.unicode_isExcludingLatin_any Ybaf.lays261 Tb oT T r w hlo hhi hA hok
def Ybaf.laysNm216_ren : Go.Shelf.Ren := ⟨fun | 16 => 4 | n => n, fun | 24 => 23 | 9 => 9 | 4 => 4 | n => n, fun | n => n⟩
theorem Ybaf.laysNm216 : Go.Proofs.Lays2.n16 Ybaf.prog Ybaf.laysNm216_ren := {
  mixed := by kernel_rfl
  f16 := Ybaf.func4.trans (congrArg some (by kernel_rfl))
  t4 := Ybaf.underlying4
  a4 := Ybaf.isAgg4
  z4 := Ybaf.sizeOf4
  v4 := Ybaf.zeroValue4
  t9 := Ybaf.underlying9
  a9 := Ybaf.isAgg9
  z9 := Ybaf.sizeOf9
  v9 := Ybaf.zeroValue9
  t24 := Ybaf.underlying23
  a24 := Ybaf.isAgg23
  z24 := Ybaf.sizeOf23
  v24 := Ybaf.zeroValue23
  i9 := by kernel_rfl }
open Go.RowKit Go.Lib in
theorem Ybaf.slices_Clone_string (b off n c : Nat) (zs : List ByteArray) (w : World) (hz : n ≤ zs.length) (hbig : n * 16 ≤ 140737488355328) (hc : ∀ j, j < zs.length → w.cell? ⟨b, off + j, none⟩ = some (.string (zs.getD j ByteArray.empty))) :
    Calls Ybaf.prog 4 #[.slice (some ⟨b, off, none⟩) n c] w fun e w' => ∃ v', e = .returned v' ∧ w'.ownsRow w.heap.size 9 1 v' n ((zs.take n).map (Value.string)) ∧ v' ≠ .slice none 0 0 ∧ Below w.heap.size w w' := Any.slices_Clone_string Ybaf.laysNm216 b off n c zs w hz hbig hc
open Go.RowKit Go.Lib in
theorem Ybaf.slices_Clone_string_nil (n c : Nat) (w : World) :
    Calls Ybaf.prog 4 #[.slice none n c] w fun e w' => e = .returned (.slice none 0 0) ∧ w' = w := Any.slices_Clone_string_nil Ybaf.laysNm216 n c w
open Go.RowKit Go.Lib in
theorem Ybaf.slices_Clone_string_zero (a : Addr) (c : Nat) (w : World) :
    Calls Ybaf.prog 4 #[.slice (some a) 0 c] w fun e w' => ∃ v', e = .returned v' ∧ w'.ownsRow w.heap.size 9 1 v' 0 [] ∧ v' ≠ .slice none 0 0 ∧ Below w.heap.size w w' := Any.slices_Clone_string_zero Ybaf.laysNm216 a c w
open Go.RowKit Go.Sort in
theorem Ybaf.slices_Sort_string_none (p : Option Addr) (cap : Nat) (w : World) :
    Calls Ybaf.prog 5 #[.slice p 0 cap] w fun e w' => e = .returned (.tuple #[]) ∧ w' = w := Any.slices_Sort_string_none Ybaf.lays190 p cap w
def Ybaf.lays115_ren : Go.Shelf.Ren := ⟨fun | 115 => 11 | n => n, fun | 37 => 22 | 4 => 4 | 9 => 9 | 5 => 5 | n => n, fun | n => n⟩
theorem Ybaf.lays115 : Go.Proofs.Lays.n115 Ybaf.prog Ybaf.lays115_ren := {
  mixed := by kernel_rfl
  f115 := Ybaf.func11.trans (congrArg some (by kernel_rfl))
  t4 := Ybaf.underlying4
  a4 := Ybaf.isAgg4
  z4 := Ybaf.sizeOf4
  v4 := Ybaf.zeroValue4
  t9 := Ybaf.underlying9
  a9 := Ybaf.isAgg9
  z9 := Ybaf.sizeOf9
  v9 := Ybaf.zeroValue9
  t37 := Ybaf.underlying22
  a37 := Ybaf.isAgg22
  z37 := Ybaf.sizeOf22
  v37 := Ybaf.zeroValue22 }
open Go.Proofs Go.RowKit Go.Lib in
theorem Ybaf.bytes_Equal_strs (v1 v2 : Value) (t1 t2 : ByteArray) (w : World) (h1 : (convert 22 9 v1).run Ybaf.prog w = .ok (.string t1) w) (h2 : (convert 22 9 v2).run Ybaf.prog w = .ok (.string t2) w) :
    Calls Ybaf.prog 11 #[v1, v2] w fun e w' => e = .returned (.bool (t1.toList == t2.toList)) ∧ w' = w := Any.bytes_Equal_strs Ybaf.lays115 v1 v2 t1 t2 w h1 h2
def Ybaf.laysSlK4_ren : Go.Shelf.Ren := ⟨fun | 4 => 7 | n => n, fun | 22 => 22 | 4 => 4 | 5 => 5 | n => n, fun | n => n⟩
theorem Ybaf.laysSlK4 : Go.Proofs.SlLaysK.n4 Ybaf.prog Ybaf.laysSlK4_ren := {
  mixed := by kernel_rfl
  f4 := Ybaf.func7.trans (congrArg some (by kernel_rfl))
  t4 := Ybaf.underlying4
  a4 := Ybaf.isAgg4
  z4 := Ybaf.sizeOf4
  v4 := Ybaf.zeroValue4
  t22 := Ybaf.underlying22
  a22 := Ybaf.isAgg22
  z22 := Ybaf.sizeOf22
  v22 := Ybaf.zeroValue22
  t5 := Ybaf.underlying5
  i5 := by kernel_rfl }
open Go.RowKit Go.Lib in
theorem Ybaf.bytes_Clone_at (a : Addr) (n c : Nat) (xs : List Int) (w : World) (hx : xs.length = n) (hbig : n ≤ 140737488355328) (hc : ∀ i, i < n → w.cell? (a.add i) = some (.int .u8 (xs.getD i 0))) :
    Calls Ybaf.prog 7 #[.slice (some a) n c] w fun e w' => ∃ v', e = .returned v' ∧ w'.ownsRow w.heap.size 5 1 v' n (xs.map (Value.int .u8)) ∧ v' ≠ .slice none 0 0 ∧ Below w.heap.size w w' := Any.bytes_Clone_at Ybaf.laysSlK4 a n c xs w hx hbig hc
open Go.RowKit Go.Lib in
theorem Ybaf.bytes_Clone_nil (n c : Nat) (w : World) :
    Calls Ybaf.prog 7 #[.slice none n c] w fun e w' => e = .returned (.slice none 0 0) ∧ w' = w := Any.bytes_Clone_nil Ybaf.laysSlK4 n c w
def Ybaf.laysnb115_ren : Go.Shelf.Ren := ⟨fun | 115 => 11 | n => n, fun | 37 => 22 | 4 => 4 | 9 => 9 | 5 => 5 | n => n, fun | n => n⟩
theorem Ybaf.laysnb115 : Go.Proofs.Lays.nb115 Ybaf.prog Ybaf.laysnb115_ren := {
  mixed := by kernel_rfl
  f115 := Ybaf.func11.trans (congrArg some (by kernel_rfl))
  t4 := Ybaf.underlying4
  a4 := Ybaf.isAgg4
  z4 := Ybaf.sizeOf4
  v4 := Ybaf.zeroValue4
  t9 := Ybaf.underlying9
  a9 := Ybaf.isAgg9
  z9 := Ybaf.sizeOf9
  v9 := Ybaf.zeroValue9
  t37 := Ybaf.underlying22
  a37 := Ybaf.isAgg22
  z37 := Ybaf.sizeOf22
  v37 := Ybaf.zeroValue22
  t5 := Ybaf.underlying5
  a5 := Ybaf.isAgg5
  z5 := Ybaf.sizeOf5
  v5 := Ybaf.zeroValue5 }
theorem Ybaf.bytes_Equal_all (p1 p2 : Option Addr) (n c m d : Nat) (xs ys : List Int) (w : World) (hx : xs.length = n) (hy : ys.length = m) (h1 : Lib.BytesIn w p1 n xs) (h2 : Lib.BytesIn w p2 m ys) :
    Calls Ybaf.prog 11 #[.slice p1 n c, .slice p2 m d] w fun e w' => e = .returned (.bool (Lib.bytesOf xs == Lib.bytesOf ys)) ∧ w' = w := Any.bytes_Equal_all Ybaf.laysnb115 p1 p2 n c m d xs ys w hx hy h1 h2
theorem Ybaf.bytes_Equal (v1 v2 : Value) (xs ys : List Int) (w : World) (h1 : (convert 22 9 v1).run Ybaf.prog w = .ok (.string (strOfNums xs)) w) (h2 : (convert 22 9 v2).run Ybaf.prog w = .ok (.string (strOfNums ys)) w) :
    Calls Ybaf.prog 11 #[v1, v2] w fun e w' => e = .returned (.bool (Lib.bytesOf xs == Lib.bytesOf ys)) ∧ w' = w := Any.bytes_Equal Ybaf.lays115 v1 v2 xs ys w h1 h2
end Go.Proofs
