/-
  DERIVED: THE SHELF's CONTRACTS AT THIS DUMP, IN PLAIN WORDS (tools/lay-plain.mjs out of 'YbaShelf.lean', which tools/lay-shelf.mjs wrote): THE SAME DECLARATIONS UNDER THE SAME NAMES: 'import', 'namespace', 'open', 'def', 'theorem' AND NOTHING ELSE: no command of the shelf's: FOR A HAND-IN. Each laying: the table of numbers ('.._ren') and one theorem, a field a fact of the dump's own or the kernel's comparison; each contract: ONE APPLICATION.
-/
import Derived.Ground.MnProg
import Derived.Shelf.Bin.BEUint32
import Derived.Shelf.Bin.BEUint32Panics
import Derived.Shelf.Bin.ReadersZ
import Derived.Shelf.Bytes.SlSearch0
import Derived.Ground.SlbCloneProg
import Derived.Shelf.Bytes.SlClone
import Derived.Shelf.Bytes.SlEqualAll
import Derived.Shelf.Bytes.Small
import Derived.Test.YbulkefbgProg
namespace Go.Proofs
open Go.Shelf
def Yba.laysBin39_ren : Go.Shelf.Ren := ⟨fun | 39 => 14 | n => n, fun | 37 => 42 | 22 => 22 | 29 => 34 | 0 => 0 | 5 => 5 | 45 => 44 | n => n, fun | n => n⟩
theorem Yba.laysBin39 : Go.Proofs.LaysBin.n39 Yba.prog Yba.laysBin39_ren := {
  mixed := by kernel_rfl
  f39 := Yba.func14.trans (congrArg some (by kernel_rfl))
  t0 := Yba.underlying0
  a0 := Yba.isAgg0
  z0 := Yba.sizeOf0
  v0 := Yba.zeroValue0
  i0 := by kernel_rfl
  t5 := Yba.underlying5
  a5 := Yba.isAgg5
  z5 := Yba.sizeOf5
  v5 := Yba.zeroValue5
  i5 := by kernel_rfl
  t22 := Yba.underlying22
  a22 := Yba.isAgg22
  z22 := Yba.sizeOf22
  v22 := Yba.zeroValue22
  i22 := by kernel_rfl
  t29 := Yba.underlying34
  a29 := Yba.isAgg34
  z29 := Yba.sizeOf34
  v29 := Yba.zeroValue34
  i29 := by kernel_rfl
  t37 := Yba.underlying42
  a37 := Yba.isAgg42
  z37 := Yba.sizeOf42
  v37 := Yba.zeroValue42
  i37 := by kernel_rfl
  t45 := Yba.underlying44
  a45 := Yba.isAgg44
  z45 := Yba.sizeOf44
  v45 := Yba.zeroValue44
  i45 := by kernel_rfl }
open Go.RowKit in
/-- binary.BigEndian.Uint32: "Uint32 returns the uint32 representation of b[0:4].": THE NUMBER THAT THE FIRST 4 BYTES SPELL, the greatest byte first ('Lib.beNat'). Of what was there nothing has turned (the receiver, an empty struct, is laid in a new block without cells; the statement's order is drawn). (LAID: no walk: one application.) -/
theorem Yba.binary_BE_Uint32 (g o n c : Nat) (b0 b1 b2 b3 : UInt8) (w : World) (hn : 4 ≤ n) (c0 : w.cell? ⟨g, o, none⟩ = some (.int .u8 b0.toNat)) (c1 : w.cell? ⟨g, o + 1, none⟩ = some (.int .u8 b1.toNat)) (c2 : w.cell? ⟨g, o + 2, none⟩ = some (.int .u8 b2.toNat)) (c3 : w.cell? ⟨g, o + 3, none⟩ = some (.int .u8 b3.toNat)) :
    Calls Yba.prog 14 #[.agg #[], .slice (some ⟨g, o, none⟩) n c] w fun e w' => e = .returned (.int .u32 (Lib.beNat [b0, b1, b2, b3])) ∧ Below w.heap.size w w' := Any.binary_BE_Uint32 Yba.laysBin39 g o n c b0 b1 b2 b3 w hn c0 c1 c2 c3
open Go.RowKit in
/-- binary.BigEndian.Uint32, b SHORTER THAN 4: IT PANICS: Go's 'runtime error: index out of range [3] with length n' ('Lib.boundsPanicked'). THE WORLD: the receiver's new block without cells, and the draw of the panic's flag. (LAID: no walk: one application.) -/
theorem Yba.binary_BE_Uint32_panics (ao : Option Addr) (n c : Nat) (w : World) (hn : n < 4) (hnil : ao = none → n = 0) :
    Calls Yba.prog 14 #[.agg #[], .slice ao n c] w fun e w' => Lib.boundsPanicked Yba.prog 3 n e ∧ w' = (w.alloc (.cells #[] 42)).drew := Any.binary_BE_Uint32_panics Yba.laysBin39 ao n c w hn hnil
open Go.RowKit in
/-- binary.BigEndian.Uint32, ITS PREMISES 'open_ints'' CONCLUSION TO THE LETTER: a slice at WHATEVER address a, the numbers zs that its cells hold: THE NUMBER THAT THE FIRST 4 SPELL ('Lib.beZ'). (LAID: no walk: one application.) -/
theorem Yba.binary_BE_Uint32_z (a : Addr) (n c : Nat) (zs : List Int) (w : World) (hn : 4 ≤ n) (hl : 4 ≤ zs.length) (hcell : ∀ i, i < zs.length → w.cell? (a.add i) = some (.int .u8 (zs.getD i 0))) (hw : ∀ z ∈ zs, (Lit.int .u8 z).wf = true) :
    Calls Yba.prog 14 #[.agg #[], .slice (some a) n c] w fun e w' => e = .returned (.int .u32 (Lib.beZ (zs.take 4))) ∧ Below w.heap.size w w' := Any.binary_BE_Uint32_z Yba.laysBin39 a n c zs w hn hl hcell hw
def Yba.lays115_ren : Go.Shelf.Ren := ⟨fun | 115 => 8 | n => n, fun | 37 => 22 | 4 => 4 | 9 => 9 | 5 => 5 | n => n, fun | n => n⟩
theorem Yba.lays115 : Go.Proofs.Lays.n115 Yba.prog Yba.lays115_ren := {
  mixed := by kernel_rfl
  f115 := Yba.func8.trans (congrArg some (by kernel_rfl))
  t4 := Yba.underlying4
  a4 := Yba.isAgg4
  z4 := Yba.sizeOf4
  v4 := Yba.zeroValue4
  t9 := Yba.underlying9
  a9 := Yba.isAgg9
  z9 := Yba.sizeOf9
  v9 := Yba.zeroValue9
  t37 := Yba.underlying22
  a37 := Yba.isAgg22
  z37 := Yba.sizeOf22
  v37 := Yba.zeroValue22 }
open Go.Proofs Go.RowKit Go.Lib in
/-- bytes.Equal, each argument with what 'string(..)' of it gives. (LAID: no walk: one application.) -/
theorem Yba.bytes_Equal_strs (v1 v2 : Value) (t1 t2 : ByteArray) (w : World) (h1 : (convert 22 9 v1).run Yba.prog w = .ok (.string t1) w) (h2 : (convert 22 9 v2).run Yba.prog w = .ok (.string t2) w) :
    Calls Yba.prog 8 #[v1, v2] w fun e w' => e = .returned (.bool (t1.toList == t2.toList)) ∧ w' = w := Any.bytes_Equal_strs Yba.lays115 v1 v2 t1 t2 w h1 h2
def Yba.laysSlK4_ren : Go.Shelf.Ren := ⟨fun | 4 => 5 | n => n, fun | 22 => 22 | 4 => 4 | 5 => 5 | n => n, fun | n => n⟩
theorem Yba.laysSlK4 : Go.Proofs.SlLaysK.n4 Yba.prog Yba.laysSlK4_ren := {
  mixed := by kernel_rfl
  f4 := Yba.func5.trans (congrArg some (by kernel_rfl))
  t4 := Yba.underlying4
  a4 := Yba.isAgg4
  z4 := Yba.sizeOf4
  v4 := Yba.zeroValue4
  t22 := Yba.underlying22
  a22 := Yba.isAgg22
  z22 := Yba.sizeOf22
  v22 := Yba.zeroValue22
  t5 := Yba.underlying5
  i5 := by kernel_rfl }
open Go.RowKit Go.Lib in
/-- bytes.Clone: "Clone returns a copy of b[:len(b)]. The result may have additional unused capacity.": OF A SLICE THAT IS NOT nil IT RETURNS A SLICE THAT IS NOT nil, OF THE SAME BYTES, IN MEMORY OF THE CALL's OWN: in the how-to's words (6f): 'w'.ownsRow B e 1 v' n cells' · 'Below B w w'', B the heap's size at the call. b AT WHATEVER ADDRESS, its cells as 'open_ints' hands them ('a.add i'; the numbers 'xs'). No byte: no cell is asked for. (LAID: no walk: one application.) -/
theorem Yba.bytes_Clone_at (a : Addr) (n c : Nat) (xs : List Int) (w : World) (hx : xs.length = n) (hbig : n ≤ 140737488355328) (hc : ∀ i, i < n → w.cell? (a.add i) = some (.int .u8 (xs.getD i 0))) :
    Calls Yba.prog 5 #[.slice (some a) n c] w fun e w' => ∃ v', e = .returned v' ∧ w'.ownsRow w.heap.size 5 1 v' n (xs.map (Value.int .u8)) ∧ v' ≠ .slice none 0 0 ∧ Below w.heap.size w w' := Any.bytes_Clone_at Yba.laysSlK4 a n c xs w hx hbig hc
open Go.RowKit Go.Lib in
/-- "Clone(nil) returns nil.": the world is as it was. (LAID: no walk: one application.) -/
theorem Yba.bytes_Clone_nil (n c : Nat) (w : World) :
    Calls Yba.prog 5 #[.slice none n c] w fun e w' => e = .returned (.slice none 0 0) ∧ w' = w := Any.bytes_Clone_nil Yba.laysSlK4 n c w
def Yba.laysnb115_ren : Go.Shelf.Ren := ⟨fun | 115 => 8 | n => n, fun | 37 => 22 | 4 => 4 | 9 => 9 | 5 => 5 | n => n, fun | n => n⟩
theorem Yba.laysnb115 : Go.Proofs.Lays.nb115 Yba.prog Yba.laysnb115_ren := {
  mixed := by kernel_rfl
  f115 := Yba.func8.trans (congrArg some (by kernel_rfl))
  t4 := Yba.underlying4
  a4 := Yba.isAgg4
  z4 := Yba.sizeOf4
  v4 := Yba.zeroValue4
  t9 := Yba.underlying9
  a9 := Yba.isAgg9
  z9 := Yba.sizeOf9
  v9 := Yba.zeroValue9
  t37 := Yba.underlying22
  a37 := Yba.isAgg22
  z37 := Yba.sizeOf22
  v37 := Yba.zeroValue22
  t5 := Yba.underlying5
  a5 := Yba.isAgg5
  z5 := Yba.sizeOf5
  v5 := Yba.zeroValue5 }
/-- bytes.Equal: WHOLE. (LAID: no walk: one application.) -/
theorem Yba.bytes_Equal_all (p1 p2 : Option Addr) (n c m d : Nat) (xs ys : List Int) (w : World) (hx : xs.length = n) (hy : ys.length = m) (h1 : Lib.BytesIn w p1 n xs) (h2 : Lib.BytesIn w p2 m ys) :
    Calls Yba.prog 8 #[.slice p1 n c, .slice p2 m d] w fun e w' => e = .returned (.bool (Lib.bytesOf xs == Lib.bytesOf ys)) ∧ w' = w := Any.bytes_Equal_all Yba.laysnb115 p1 p2 n c m d xs ys w hx hy h1 h2
/-- bytes.Equal: "Equal reports whether a and b are the same length and contain the same bytes. A nil argument is equivalent to an empty slice.": IT RETURNS 'the bytes of the one == the bytes of the other'; the world is as it was. THE TWO ARGUMENTS COME AS WHATEVER VALUES, each with the one fact that the walk wants of it: what 'string(..)' of it gives: for a slice whose cells you know: 'run_convert_bytes_arg' (Derived/Laws/BytesArg.lean) hands that fact; for a nil one: 'run_convert_bytes_nil' (with xs := []). (LAID: no walk: one application.) -/
theorem Yba.bytes_Equal (v1 v2 : Value) (xs ys : List Int) (w : World) (h1 : (convert 22 9 v1).run Yba.prog w = .ok (.string (strOfNums xs)) w) (h2 : (convert 22 9 v2).run Yba.prog w = .ok (.string (strOfNums ys)) w) :
    Calls Yba.prog 8 #[v1, v2] w fun e w' => e = .returned (.bool (Lib.bytesOf xs == Lib.bytesOf ys)) ∧ w' = w := Any.bytes_Equal Yba.lays115 v1 v2 xs ys w h1 h2
end Go.Proofs
