/- LawS6572CWhole: memory that the law makes. -/
import Derived.Test.YbulkefbuC3
import Derived.Test.YbulkefbuC4
import Derived.Deep.RegionHeld3
import Derived.Deep.AppendLies
import Derived.Deep.DrawnRows
import Derived.Laws.EntriesVeiled
namespace Go.Proofs.Ybulkefbu.C
open Go.RowKit
set_option linter.unusedVariables false

/-- The zero cells of n pairs. -/
def zeros (n : Nat) : Array Value := madeCells #[.int .i64 0, .int .i64 0, .int .i64 0] (n * 3)
theorem zeros_size (n : Nat) : (zeros n).size = n * 3 := size_madeCells _ _

theorem mk44 (n : Nat) (hn : n ≤ 1048576) (w : World) : (Instr.makeSlice 44 (.int .i64 n) (.int .i64 n)).run Yba.prog w = .ok (.slice (some ⟨w.heap.size, 0, none⟩) n n) (w.alloc (.cells (zeros n) 48)) := by
  have hi : (Yba.prog.info? 48).map (fun i => (i.zero, i.size, i.bytes)) = some (some (.agg #[.int .i64 0, .int .i64 0, .int .i64 0]), 3, 24) := by kernel_rfl
  obtain ⟨i, h1, h2⟩ := Option.map_eq_some_iff.1 hi
  simp only [Prod.mk.injEq] at h2
  obtain ⟨h2, h3, h4⟩ := h2
  have := run_make (P := Yba.prog) w 44 48 i _ Yba.underlying44 h1 h2 .i64 .i64 n n (by omega) (Int.le_refl _) (by rw [h4]; omega) (by omega)
  rw [this, h3]
  simp [zeros, Value.cells]

/-- An array of n pairs in block b, of which the first 'upto' are known. -/
def Arr (w : World) (b n upto : Nat) (L E D : Nat → Int) : Prop :=
  ∃ cur : Array Value, w.heap[b]? = some (.cells cur 48 (0, 0)) ∧ cur.size = n * 3 ∧ ∀ j, j < upto → cur[j * 3]? = some (.int .i64 (L j)) ∧ cur[j * 3 + 1]? = some (.int .i64 (E j)) ∧ cur[j * 3 + 2]? = some (.int .i64 (D j))

section
variable {w : World} {b n i : Nat} {L E D : Nat → Int}

theorem Arr.pair (h : Arr w b n i L E D) {j : Nat} (hj : j < i) : Pair w b j (L j) (E j) (D j) := by
  obtain ⟨cur, h1, h2, h3⟩ := h
  obtain ⟨a, b, c⟩ := h3 j hj
  refine ⟨?_, ?_, ?_⟩ <;> simp [World.cell?, *]

theorem Arr.some (h : Arr w b n i L E D) {o : Nat} (ho : o < n * 3) : ∃ v, w.cell? ⟨b, o, none⟩ = some v := by
  obtain ⟨cur, h1, h2, h3⟩ := h
  exact ⟨cur[o], by simp [World.cell?, h1, h2, ho]⟩

theorem Arr.frozen (h : Arr w b n i L E D) (o : Nat) : w.frozen? ⟨b, o, none⟩ = false := by
  obtain ⟨cur, h1, h2, h3⟩ := h
  simp [World.frozen?, h1]

theorem Arr.set (h : Arr w b n i L E D) (hi : i < n) : Arr (((w.setCell ⟨b, i * 3, none⟩ (.int .i64 (L i))).setCell ⟨b, i * 3 + 1, none⟩ (.int .i64 (E i))).setCell ⟨b, i * 3 + 2, none⟩ (.int .i64 (D i))) b n (i + 1) L E D := by
  obtain ⟨cur, h1, h2, h3⟩ := h
  refine ⟨((cur.setIfInBounds (i * 3) (.int .i64 (L i))).setIfInBounds (i * 3 + 1) (.int .i64 (E i))).setIfInBounds (i * 3 + 2) (.int .i64 (D i)), ?_, by simpa using h2, fun j hj => ?_⟩
  · simp [World.setCell, Array.getElem?_modify, h1]
  · by_cases hji : j = i
    · subst hji
      refine ⟨?_, ?_, ?_⟩ <;> simp [Array.getElem?_setIfInBounds] <;> omega
    · obtain ⟨x, y, z⟩ := h3 j (by omega)
      refine ⟨?_, ?_, ?_⟩ <;> simp only [Array.getElem?_setIfInBounds] <;> (repeat rw [if_neg (by omega)]) <;> assumption

theorem Arr.block {w' : World} (h : Arr w b n i L E D) (hb : w'.heap[b]? = w.heap[b]?) : Arr w' b n i L E D := by
  obtain ⟨cur, h1, r⟩ := h
  exact ⟨cur, hb.trans h1, r⟩

theorem Arr.lt (h : Arr w b n i L E D) : b < w.heap.size := by
  obtain ⟨cur, h1, r⟩ := h
  obtain ⟨h, _⟩ := Array.getElem?_eq_some_iff.1 h1; exact h
end

/-- A variable's box. -/
def Box (w : World) (b : Nat) (t : TypeId) (v : Value) : Prop := w.heap[b]? = some (.cells #[v] t (0, 0))
theorem Box.cell {w : World} {b : Nat} {t : TypeId} {v : Value} (h : Box w b t v) : w.cell? ⟨b, 0, none⟩ = some v := by unfold Box at h; simp [World.cell?, h]
theorem Box.frozen {w : World} {b : Nat} {t : TypeId} {v : Value} (h : Box w b t v) (o : Nat) : w.frozen? ⟨b, o, none⟩ = false := by unfold Box at h; simp [World.frozen?, h]
theorem Box.block {w w' : World} {b : Nat} {t : TypeId} {v : Value} (h : Box w b t v) (hb : w'.heap[b]? = w.heap[b]?) : Box w' b t v := hb.trans h
theorem Box.lt {w : World} {b : Nat} {t : TypeId} {v : Value} (h : Box w b t v) : b < w.heap.size := by
  unfold Box at h; obtain ⟨h, _⟩ := Array.getElem?_eq_some_iff.1 h; exact h

/-- The input, as it came in. -/
structure In (w : World) (a : Option Addr) (n c : Nat) (b o : Nat) (L E D : Nat → Int) : Prop where
  le : n ≤ c
  cap : c ≤ maxLen
  here : 0 < n → a = some ⟨b, o, none⟩
  cell : ∀ i, i < n → w.cell? ⟨b, o + i * 3, none⟩ = some (.int .i64 (L i)) ∧ w.cell? ⟨b, o + i * 3 + 1, none⟩ = some (.int .i64 (E i)) ∧ w.cell? ⟨b, o + i * 3 + 2, none⟩ = some (.int .i64 (D i))

/-- What stands behind the first loop's i-th round. -/
structure Fill (w0 w : World) (n i : Nat) (L E D : Nat → Int) : Prop where
  pairs : Arr w w0.heap.size n i L E D
  keep : Arr w (w0.heap.size + 1 + 1) n i L E D
  bp : Box w (w0.heap.size + 1) 44 (.slice (some ⟨w0.heap.size, 0, none⟩) n n)
  bk : Box w (w0.heap.size + 1 + 1 + 1) 44 (.slice (some ⟨w0.heap.size + 1 + 1, 0, none⟩) n n)
  below : Below w0.heap.size w0 w
  size : w.heap.size = w0.heap.size + 4

theorem set3_block {w : World} {c o1 o2 o3 : Nat} {v1 v2 v3 : Value} {b : Nat} (hne : b ≠ c) : (((w.setCell ⟨c, o1, none⟩ v1).setCell ⟨c, o2, none⟩ v2).setCell ⟨c, o3, none⟩ v3).drew.heap[b]? = w.heap[b]? := by
  show (((w.setCell ⟨c, o1, none⟩ v1).setCell ⟨c, o2, none⟩ v2).setCell ⟨c, o3, none⟩ v3).heap[b]? = w.heap[b]?
  rw [Below.heap_setCell _ _ _ _ hne, Below.heap_setCell _ _ _ _ hne, Below.heap_setCell _ _ _ _ hne]

/-- Behind the first statement of the round. -/
def FillOne (w0 w : World) (n i : Nat) (L E D : Nat → Int) : Prop :=
  Arr w w0.heap.size n (i + 1) L E D ∧ Arr w (w0.heap.size + 1 + 1) n i L E D ∧ Box w (w0.heap.size + 1) 44 (.slice (some ⟨w0.heap.size, 0, none⟩) n n) ∧ Box w (w0.heap.size + 1 + 1 + 1) 44 (.slice (some ⟨w0.heap.size + 1 + 1, 0, none⟩) n n) ∧ Below w0.heap.size w0 w ∧ w.heap.size = w0.heap.size + 4

theorem fill_one {w0 w : World} {n i : Nat} {L E D : Nat → Int} (h : Fill w0 w n i L E D) (hi : i < n) :
    FillOne w0 (((w.setCell ⟨w0.heap.size, i * 3, none⟩ (.int .i64 (L i))).setCell ⟨w0.heap.size, i * 3 + 1, none⟩ (.int .i64 (E i))).setCell ⟨w0.heap.size, i * 3 + 2, none⟩ (.int .i64 (D i))).drew n i L E D :=
  ⟨h.pairs.set hi, h.keep.block (set3_block (by omega)), h.bp.block (set3_block (by omega)), h.bk.block (set3_block (by omega)),
    (((h.below.setCell (Nat.le_refl _) _).setCell (Nat.le_refl _) _).setCell (Nat.le_refl _) _).drew, by simpa using h.size⟩

theorem fill_two {w0 w : World} {n i : Nat} {L E D : Nat → Int} (h : FillOne w0 w n i L E D) (hi : i < n) :
    Fill w0 (((w.setCell ⟨w0.heap.size + 1 + 1, i * 3, none⟩ (.int .i64 (L i))).setCell ⟨w0.heap.size + 1 + 1, i * 3 + 1, none⟩ (.int .i64 (E i))).setCell ⟨w0.heap.size + 1 + 1, i * 3 + 2, none⟩ (.int .i64 (D i))).drew n (i + 1) L E D :=
  ⟨h.1.block (set3_block (by omega)), h.2.1.set hi, h.2.2.1.block (set3_block (by omega)), h.2.2.2.1.block (set3_block (by omega)),
    (((h.2.2.2.2.1.setCell (by simp; omega) _).setCell (by simp; omega) _).setCell (by simp; omega) _).drew, by simpa using h.2.2.2.2.2⟩

theorem off3 {w : World} {b o c o1 o2 o3 : Nat} {x v1 v2 v3 : Value} (h : w.cell? ⟨b, o, none⟩ = some x) (hne : ¬ b = c) : (((w.setCell ⟨c, o1, none⟩ v1).setCell ⟨c, o2, none⟩ v2).setCell ⟨c, o3, none⟩ v3).drew.cell? ⟨b, o, none⟩ = some x := by
  have e : (((w.setCell ⟨c, o1, none⟩ v1).setCell ⟨c, o2, none⟩ v2).setCell ⟨c, o3, none⟩ v3).heap[b]? = w.heap[b]? := by
    rw [Below.heap_setCell _ _ _ _ hne, Below.heap_setCell _ _ _ _ hne, Below.heap_setCell _ _ _ _ hne]
  exact (World.cell?_of_block (w := w) (a := ⟨b, o, none⟩) e).trans h

theorem fill_start (w : World) (n : Nat) (L E D : Nat → Int) : Fill w ((((w.alloc (.cells (zeros n) 48)).alloc (.cells #[.slice (some ⟨w.heap.size, 0, none⟩) n n] 44)).alloc (.cells (zeros n) 48)).alloc (.cells #[.slice (some ⟨w.heap.size + 1 + 1, 0, none⟩) n n] 44)) n 0 L E D where
  pairs := ⟨zeros n, by simp only [World.alloc, Array.getElem?_push, Array.size_push]; simp; omega, zeros_size n, fun j h => absurd h (Nat.not_lt_zero j)⟩
  keep := ⟨zeros n, by simp only [World.alloc, Array.getElem?_push, Array.size_push]; simp, zeros_size n, fun j h => absurd h (Nat.not_lt_zero j)⟩
  bp := by simp only [Box, World.alloc, Array.getElem?_push, Array.size_push]; simp
  bk := by simp only [Box, World.alloc, Array.getElem?_push, Array.size_push]; simp
  below := (((((Below.refl _ _).alloc (Nat.le_refl _) _).alloc (by simp) _ |>.alloc (by simp; omega) _).alloc (by simp; omega) _))
  size := by simp

end Go.Proofs.Ybulkefbu.C
