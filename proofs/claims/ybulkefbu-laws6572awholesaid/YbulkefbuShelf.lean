/- The kit's shelf laid at this dump (strings.Join and its kin); the comments are left out. -/
import Derived.Shelf.Strings.Builder1
import Derived.Shelf.Strings.Builder2
import Derived.Shelf.Strings.OnBuilder
import Derived.Shelf.Strings.BuilderF
import Derived.Shelf.Strings.BuilderK
import Derived.Shelf.Strings.Builder2Cap
import Derived.Shelf.Strings.BuilderCap
import Derived.Test.YbulkefbuProg
namespace Go.Proofs
open Go.Shelf
def Yba.lays169_ren : Go.Shelf.Ren := ⟨fun | 169 => 23 | n => n, fun | 70 => 62 | 9 => 9 | 0 => 0 | 72 => 64 | 37 => 30 | 127 => 71 | 3 => 3 | 5 => 5 | n => n, fun | n => n⟩
theorem Yba.lays169 : Go.Proofs.Lays.n169 Yba.prog Yba.lays169_ren := {
  mixed := by kernel_rfl
  f169 := Yba.func23.trans (congrArg some (by kernel_rfl))
  t0 := Yba.underlying0
  a0 := Yba.isAgg0
  z0 := Yba.sizeOf0
  v0 := Yba.zeroValue0
  t3 := Yba.underlying3
  a3 := Yba.isAgg3
  z3 := Yba.sizeOf3
  v3 := Yba.zeroValue3
  t9 := Yba.underlying9
  a9 := Yba.isAgg9
  z9 := Yba.sizeOf9
  v9 := Yba.zeroValue9
  t37 := Yba.underlying30
  a37 := Yba.isAgg30
  z37 := Yba.sizeOf30
  v37 := Yba.zeroValue30
  t70 := Yba.underlying62
  a70 := Yba.isAgg62
  z70 := Yba.sizeOf62
  v70 := Yba.zeroValue62
  t72 := Yba.underlying64
  a72 := Yba.isAgg64
  z72 := Yba.sizeOf64
  v72 := Yba.zeroValue64
  t127 := Yba.underlying71
  a127 := Yba.isAgg71
  z127 := Yba.sizeOf71
  v127 := Yba.zeroValue71 }
theorem Yba.Builder_Extra_169 : Builder.Extra Yba.prog Yba.lays169_ren := {
  sizeBuilder := by kernel_rfl
  liesBuilder := by kernel_rfl
  t5 := Yba.underlying5
  a5 := Yba.isAgg5
  z5 := Yba.sizeOf5
  v5 := Yba.zeroValue5
  infoByte := by kernel_rfl
  cellsByte := by kernel_rfl
  sizeByte := by kernel_rfl
  neB5 := by decide }
open Go.RowKit in
theorem Yba.Builder_String (B b : Nat) (l : List UInt8) (w : World) (h : Lib.IsBuilder 64 5 B b (Lib.byteCells l) w) (h0 : l ≠ []) :
    Calls Yba.prog 23 #[.pointer (some ⟨b, 0, none⟩)] w fun e w' => e = .returned (.string ⟨l.toArray⟩) ∧ Below B w w' := Any.Builder_String Yba.lays169 Yba.Builder_Extra_169 B b l w h h0
open Go.RowKit in
theorem Yba.Builder_String_empty (B b : Nat) (w : World) (h : Lib.IsBuilder 64 5 B b [] w) (hBw : B ≤ w.heap.size) :
    Calls Yba.prog 23 #[.pointer (some ⟨b, 0, none⟩)] w fun e w' => e = .returned (.string ⟨#[]⟩) ∧ Below B w w' := Any.Builder_String_empty Yba.lays169 Yba.Builder_Extra_169 B b w h hBw
open Go.RowKit in
theorem Yba.Builder_String_any (B b : Nat) (l : List UInt8) (w : World) (h : Lib.IsBuilder 64 5 B b (Lib.byteCells l) w) (hBw : B ≤ w.heap.size) :
    Calls Yba.prog 23 #[.pointer (some ⟨b, 0, none⟩)] w fun e w' => e = .returned (.string ⟨l.toArray⟩) ∧ Below B w w' := Any.Builder_String_any Yba.lays169 Yba.Builder_Extra_169 B b l w h hBw
def Yba.lays241_ren : Go.Shelf.Ren := ⟨fun | 241 => 26 | 277 => 28 | n => n, fun | 70 => 62 | 3 => 3 | 0 => 0 | 72 => 64 | 37 => 30 | 5 => 5 | n => n, fun | n => n⟩
theorem Yba.lays241 : Go.Proofs.Lays.n241 Yba.prog Yba.lays241_ren := {
  mixed := by kernel_rfl
  f241 := Yba.func26.trans (congrArg some (by kernel_rfl))
  f277 := Yba.func28.trans (congrArg some (by kernel_rfl))
  t0 := Yba.underlying0
  a0 := Yba.isAgg0
  z0 := Yba.sizeOf0
  v0 := Yba.zeroValue0
  t3 := Yba.underlying3
  a3 := Yba.isAgg3
  z3 := Yba.sizeOf3
  v3 := Yba.zeroValue3
  t37 := Yba.underlying30
  a37 := Yba.isAgg30
  z37 := Yba.sizeOf30
  v37 := Yba.zeroValue30
  t70 := Yba.underlying62
  a70 := Yba.isAgg62
  z70 := Yba.sizeOf62
  v70 := Yba.zeroValue62
  t72 := Yba.underlying64
  a72 := Yba.isAgg64
  z72 := Yba.sizeOf64
  v72 := Yba.zeroValue64 }
theorem Yba.Builder_Extra_241 : Builder.Extra Yba.prog Yba.lays241_ren := {
  sizeBuilder := by kernel_rfl
  liesBuilder := by kernel_rfl
  t5 := Yba.underlying5
  a5 := Yba.isAgg5
  z5 := Yba.sizeOf5
  v5 := Yba.zeroValue5
  infoByte := by kernel_rfl
  cellsByte := by kernel_rfl
  sizeByte := by kernel_rfl
  neB5 := by decide }
open Go.RowKit in
theorem Yba.Builder_grow_fresh (B b n : Nat) (w : World) (hB : B ≤ b) (hbk : w.heap[b]? = some (.cells #[.pointer (some ⟨b, 0, none⟩), .slice none 0 0] 64 (0, 0))) (hBw : B ≤ w.heap.size) (hn : n ≤ 281474976710656) :
    Calls Yba.prog 26 #[.pointer (some ⟨b, 0, none⟩), .int .i64 n] w fun e w' => e = .returned (.tuple #[]) ∧ (Lib.BuilderAt 64 5 B b (.pointer (some ⟨b, 0, none⟩)) [] w' ∧ Below B w w') := Any.Builder_grow_fresh Yba.lays241 Yba.Builder_Extra_241 B b n w hB hbk hBw hn
def Yba.lays165_ren : Go.Shelf.Ren := ⟨fun | 165 => 21 | 240 => 25 | 241 => 26 | 276 => 27 | 277 => 28 | n => n, fun | 70 => 62 | 3 => 3 | 0 => 0 | 4 => 4 | 9 => 9 | 20 => 20 | 72 => 64 | 37 => 30 | 164 => 74 | 5 => 5 | n => n, fun | n => n⟩
theorem Yba.lays165 : Go.Proofs.Lays.n165 Yba.prog Yba.lays165_ren := {
  mixed := by kernel_rfl
  f165 := Yba.func21.trans (congrArg some (by kernel_rfl))
  f240 := Yba.func25.trans (congrArg some (by kernel_rfl))
  f241 := Yba.func26.trans (congrArg some (by kernel_rfl))
  f276 := Yba.func27.trans (congrArg some (by kernel_rfl))
  f277 := Yba.func28.trans (congrArg some (by kernel_rfl))
  t0 := Yba.underlying0
  a0 := Yba.isAgg0
  z0 := Yba.sizeOf0
  v0 := Yba.zeroValue0
  t3 := Yba.underlying3
  a3 := Yba.isAgg3
  z3 := Yba.sizeOf3
  v3 := Yba.zeroValue3
  t4 := Yba.underlying4
  a4 := Yba.isAgg4
  z4 := Yba.sizeOf4
  v4 := Yba.zeroValue4
  t9 := Yba.underlying9
  a9 := Yba.isAgg9
  z9 := Yba.sizeOf9
  v9 := Yba.zeroValue9
  t20 := Yba.underlying20
  a20 := Yba.isAgg20
  z20 := Yba.sizeOf20
  v20 := Yba.zeroValue20
  t37 := Yba.underlying30
  a37 := Yba.isAgg30
  z37 := Yba.sizeOf30
  v37 := Yba.zeroValue30
  t70 := Yba.underlying62
  a70 := Yba.isAgg62
  z70 := Yba.sizeOf62
  v70 := Yba.zeroValue62
  t72 := Yba.underlying64
  a72 := Yba.isAgg64
  z72 := Yba.sizeOf64
  v72 := Yba.zeroValue64
  t164 := Yba.underlying74
  a164 := Yba.isAgg74
  z164 := Yba.sizeOf74
  v164 := Yba.zeroValue74 }
theorem Yba.Builder_Extra_165 : Builder.Extra Yba.prog Yba.lays165_ren := {
  sizeBuilder := by kernel_rfl
  liesBuilder := by kernel_rfl
  t5 := Yba.underlying5
  a5 := Yba.isAgg5
  z5 := Yba.sizeOf5
  v5 := Yba.zeroValue5
  infoByte := by kernel_rfl
  cellsByte := by kernel_rfl
  sizeByte := by kernel_rfl
  neB5 := by decide }
open Go.RowKit in
theorem Yba.Builder_Grow_fresh (B b n : Nat) (w : World) (hB : B ≤ b) (hbk : w.heap[b]? = some (.cells #[.pointer none, .slice none 0 0] 64 (0, 0))) (hBw : B ≤ w.heap.size) (hn : n ≤ 281474976710656) :
    Calls Yba.prog 21 #[.pointer (some ⟨b, 0, none⟩), .int .i64 n] w fun e w' => e = .returned (.tuple #[]) ∧ (Lib.BuilderAt 64 5 B b (.pointer (some ⟨b, 0, none⟩)) [] w' ∧ Below B w w') := Any.Builder_Grow_fresh Yba.lays165 Yba.Builder_Extra_165 B b n w hB hbk hBw hn
def Yba.lays156_ren : Go.Shelf.Ren := ⟨fun | 156 => 18 | 165 => 21 | 166 => 22 | 169 => 23 | 240 => 25 | 241 => 26 | 276 => 27 | 277 => 28 | n => n, fun | 31 => 22 | 9 => 9 | 3 => 3 | 4 => 4 | 0 => 0 | 20 => 20 | 72 => 64 | 76 => 59 | 70 => 62 | 37 => 30 | 75 => 35 | 127 => 71 | 164 => 74 | 5 => 5 | 80 => 67 | n => n, fun | n => n⟩
theorem Yba.lays156 : Go.Proofs.Lays.n156 Yba.prog Yba.lays156_ren := {
  mixed := by kernel_rfl
  f156 := Yba.func18.trans (congrArg some (by kernel_rfl))
  f165 := Yba.func21.trans (congrArg some (by kernel_rfl))
  f166 := Yba.func22.trans (congrArg some (by kernel_rfl))
  f169 := Yba.func23.trans (congrArg some (by kernel_rfl))
  f240 := Yba.func25.trans (congrArg some (by kernel_rfl))
  f241 := Yba.func26.trans (congrArg some (by kernel_rfl))
  f276 := Yba.func27.trans (congrArg some (by kernel_rfl))
  f277 := Yba.func28.trans (congrArg some (by kernel_rfl))
  t0 := Yba.underlying0
  a0 := Yba.isAgg0
  z0 := Yba.sizeOf0
  v0 := Yba.zeroValue0
  t3 := Yba.underlying3
  a3 := Yba.isAgg3
  z3 := Yba.sizeOf3
  v3 := Yba.zeroValue3
  t4 := Yba.underlying4
  a4 := Yba.isAgg4
  z4 := Yba.sizeOf4
  v4 := Yba.zeroValue4
  t9 := Yba.underlying9
  a9 := Yba.isAgg9
  z9 := Yba.sizeOf9
  v9 := Yba.zeroValue9
  t20 := Yba.underlying20
  a20 := Yba.isAgg20
  z20 := Yba.sizeOf20
  v20 := Yba.zeroValue20
  t31 := Yba.underlying22
  a31 := Yba.isAgg22
  z31 := Yba.sizeOf22
  v31 := Yba.zeroValue22
  t37 := Yba.underlying30
  a37 := Yba.isAgg30
  z37 := Yba.sizeOf30
  v37 := Yba.zeroValue30
  t70 := Yba.underlying62
  a70 := Yba.isAgg62
  z70 := Yba.sizeOf62
  v70 := Yba.zeroValue62
  t72 := Yba.underlying64
  a72 := Yba.isAgg64
  z72 := Yba.sizeOf64
  v72 := Yba.zeroValue64
  t75 := Yba.underlying35
  a75 := Yba.isAgg35
  z75 := Yba.sizeOf35
  v75 := Yba.zeroValue35
  t76 := Yba.underlying59
  a76 := Yba.isAgg59
  z76 := Yba.sizeOf59
  v76 := Yba.zeroValue59
  t127 := Yba.underlying71
  a127 := Yba.isAgg71
  z127 := Yba.sizeOf71
  v127 := Yba.zeroValue71
  t164 := Yba.underlying74
  a164 := Yba.isAgg74
  z164 := Yba.sizeOf74
  v164 := Yba.zeroValue74 }
theorem Yba.Builder_Extra_156 : Builder.Extra Yba.prog Yba.lays156_ren := {
  sizeBuilder := by kernel_rfl
  liesBuilder := by kernel_rfl
  t5 := Yba.underlying5
  a5 := Yba.isAgg5
  z5 := Yba.sizeOf5
  v5 := Yba.zeroValue5
  infoByte := by kernel_rfl
  cellsByte := by kernel_rfl
  sizeByte := by kernel_rfl
  neB5 := by decide }
open Go.RowKit in
theorem Yba.strings_Join_none (a : Option Addr) (c : Nat) (sep : ByteArray) (w : World) :
    Calls Yba.prog 18 #[.slice a 0 c, .string sep] w fun e w' => e = .returned (.string ⟨#[]⟩) ∧ w' = w := Any.strings_Join_none Yba.lays156 Yba.Builder_Extra_156 a c sep w
open Go.RowKit in
theorem Yba.strings_Join (bk o c : Nat) (xs : List ByteArray) (sep : ByteArray) (w : World) (hcells : ∀ (j : Nat) x, xs[j]? = some x → w.cell? ⟨bk, o + j, none⟩ = some (.string x)) (hbk : bk < w.heap.size) (hN : xs.length ≤ 140737488355328) (hcap : xs.length ≤ c) (hlen : (Lib.join (xs.map (·.data.toList)) sep.data.toList).length ≤ 140737488355328) :
    Calls Yba.prog 18 #[.slice (some ⟨bk, o, none⟩) xs.length c, .string sep] w fun e w' => e = .returned (.string ⟨(Lib.join (xs.map (·.data.toList)) sep.data.toList).toArray⟩) ∧ Below w.heap.size w w' := Any.strings_Join Yba.lays156 Yba.Builder_Extra_156 bk o c xs sep w hcells hbk hN hcap hlen
open Go.RowKit in
theorem Yba.Builder_String_f (B b : Nat) (l : List UInt8) (w : World) (h : Lib.IsBuilderF 64 5 B b (Lib.byteCells l) w) (h0 : l ≠ []) :
    Calls Yba.prog 23 #[.pointer (some ⟨b, 0, none⟩)] w fun e w' => e = .returned (.string ⟨l.toArray⟩) ∧ (Lib.IsBuilderF 64 5 B b (Lib.byteCells l) w' ∧ Below B w w') := Any.Builder_String_f Yba.lays169 Yba.Builder_Extra_169 B b l w h h0
open Go.RowKit in
theorem Yba.Builder_String_empty_f (B b : Nat) (w : World) (h : Lib.IsBuilderF 64 5 B b [] w) (hBw : B ≤ w.heap.size) :
    Calls Yba.prog 23 #[.pointer (some ⟨b, 0, none⟩)] w fun e w' => e = .returned (.string ⟨#[]⟩) ∧ (Lib.IsBuilderF 64 5 B b [] w' ∧ Below B w w') := Any.Builder_String_empty_f Yba.lays169 Yba.Builder_Extra_169 B b w h hBw
open Go.RowKit in
theorem Yba.Builder_String_any_f (B b : Nat) (l : List UInt8) (w : World) (h : Lib.IsBuilderF 64 5 B b (Lib.byteCells l) w) (hBw : B ≤ w.heap.size) :
    Calls Yba.prog 23 #[.pointer (some ⟨b, 0, none⟩)] w fun e w' => e = .returned (.string ⟨l.toArray⟩) ∧ (Lib.IsBuilderF 64 5 B b (Lib.byteCells l) w' ∧ Below B w w') := Any.Builder_String_any_f Yba.lays169 Yba.Builder_Extra_169 B b l w h hBw
open Go.RowKit in
theorem Yba.Builder_String_k (B b : Nat) (l : List UInt8) (w : World) (h : Lib.IsBuilderF 64 5 B b (Lib.byteCells l) w) (h0 : l ≠ []) :
    Calls Yba.prog 23 #[.pointer (some ⟨b, 0, none⟩)] w fun e w' => e = .returned (.string ⟨l.toArray⟩) ∧ (Lib.IsBuilderF 64 5 B b (Lib.byteCells l) w' ∧ Below B w w' ∧ Lib.OthersKept 5 (some b) w w') := Any.Builder_String_k Yba.lays169 Yba.Builder_Extra_169 B b l w h h0
open Go.RowKit in
theorem Yba.Builder_String_empty_k (B b : Nat) (w : World) (h : Lib.IsBuilderF 64 5 B b [] w) (hBw : B ≤ w.heap.size) :
    Calls Yba.prog 23 #[.pointer (some ⟨b, 0, none⟩)] w fun e w' => e = .returned (.string ⟨#[]⟩) ∧ (Lib.IsBuilderF 64 5 B b [] w' ∧ Below B w w' ∧ Lib.OthersKept 5 (some b) w w') := Any.Builder_String_empty_k Yba.lays169 Yba.Builder_Extra_169 B b w h hBw
open Go.RowKit in
theorem Yba.Builder_String_any_k (B b : Nat) (l : List UInt8) (w : World) (h : Lib.IsBuilderF 64 5 B b (Lib.byteCells l) w) (hBw : B ≤ w.heap.size) :
    Calls Yba.prog 23 #[.pointer (some ⟨b, 0, none⟩)] w fun e w' => e = .returned (.string ⟨l.toArray⟩) ∧ (Lib.IsBuilderF 64 5 B b (Lib.byteCells l) w' ∧ Below B w w' ∧ Lib.OthersKept 5 (some b) w w') := Any.Builder_String_any_k Yba.lays169 Yba.Builder_Extra_169 B b l w h hBw
open Go.RowKit in
theorem Yba.Builder_grow_fresh_cap (B b n : Nat) (w : World) (hB : B ≤ b) (hbk : w.heap[b]? = some (.cells #[.pointer (some ⟨b, 0, none⟩), .slice none 0 0] 64 (0, 0))) (hBw : B ≤ w.heap.size) (hn : n ≤ 281474976710656) :
    Calls Yba.prog 26 #[.pointer (some ⟨b, 0, none⟩), .int .i64 n] w fun e w' => e = .returned (.tuple #[]) ∧ (Lib.BuilderAt 64 5 B b (.pointer (some ⟨b, 0, none⟩)) [] w' ∧ Below B w w') ∧ ∃ p cap, w'.cell? ⟨b, 1, none⟩ = some (.slice p 0 cap) ∧ n ≤ cap := Any.Builder_grow_fresh_cap Yba.lays241 Yba.Builder_Extra_241 B b n w hB hbk hBw hn
open Go.RowKit in
theorem Yba.Builder_Grow_fresh_cap (B b n : Nat) (w : World) (hB : B ≤ b) (hbk : w.heap[b]? = some (.cells #[.pointer none, .slice none 0 0] 64 (0, 0))) (hBw : B ≤ w.heap.size) (hn : n ≤ 281474976710656) :
    Calls Yba.prog 21 #[.pointer (some ⟨b, 0, none⟩), .int .i64 n] w fun e w' => e = .returned (.tuple #[]) ∧ (Lib.BuilderAt 64 5 B b (.pointer (some ⟨b, 0, none⟩)) [] w' ∧ Below B w w') ∧ ∃ p cap, w'.cell? ⟨b, 1, none⟩ = some (.slice p 0 cap) ∧ n ≤ cap := Any.Builder_Grow_fresh_cap Yba.lays165 Yba.Builder_Extra_165 B b n w hB hbk hBw hn
end Go.Proofs
