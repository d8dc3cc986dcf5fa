/- LawS6569CWhole: views of bytes; what is read, plainly. -/
import Derived.Test.YbulkefaeFmtF3
import Derived.Sort.Walk0
namespace Go.Proofs.YbulkefaeFmt
open Go.RowKit
set_option linter.unusedVariables false

theorem rd_stat (l : List UInt8) : (rd l).2.2 = 0 ∨ (rd l).2.2 = 1 ∨ (rd l).2.2 = 2 := by
  unfold rd; split
  · exact Or.inl rfl
  · split
    · exact Or.inr (Or.inl rfl)
    · exact Or.inr (Or.inr rfl)
theorem used_from : ∀ (l : List UInt8) (i acc : Nat), (Lib.uvarintFrom i acc l).2 ≤ (i : Int) + (l.length : Int)
  | [], i, acc => by simp [Lib.uvarintFrom]
  | b :: r, i, acc => by
    unfold Lib.uvarintFrom
    have ih := used_from r (i + 1) (acc + b.toNat % 128 * 2 ^ (7 * i))
    simp only [List.length_cons]
    split
    · show -((i : Int) + 1) ≤ _; omega
    · split
      · split
        · show -((i : Int) + 1) ≤ _; omega
        · show (i : Int) + 1 ≤ _; omega
      · omega
theorem rd_used (l : List UInt8) : (rd l).2.1 ≤ l.length := by
  have := used_from l 0 0
  unfold rd; split
  · show (Lib.uvarintDec l).2.toNat ≤ _
    unfold Lib.uvarintDec
    omega
  · split <;> exact Nat.zero_le _
theorem rd_lt (l : List UInt8) : (rd l).1 < 18446744073709551616 := by
  have := Lib.uvarintDec_lt l
  unfold rd; split
  · exact this
  · split <;> (show 0 < _; omega)
theorem rd_nil : rd [] = (0, 0, 1) := rd_short rfl

def ofL (l : List UInt8) : ByteArray := ⟨l.toArray⟩
def leB (x y : ByteArray) : Bool := Op.bytesLess x.toList y.toList || x.toList == y.toList

/-- n elements out of b: what is taken, what is left, how it ends. -/
def run : Nat → Bool → ByteArray → List UInt8 → List ByteArray × List UInt8 × Nat
  | 0, _, _, b => ([], b, 0)
  | n + 1, first, last, b =>
    if (rd b).2.2 ≠ 0 then ([], [], (rd b).2.2)
    else if (b.drop (rd b).2.1).length < (rd b).1 then ([], [], 1)
    else if validS (ofL ((b.drop (rd b).2.1).take (rd b).1)) = false then ([], [], 2)
    else if (!first && leB (ofL ((b.drop (rd b).2.1).take (rd b).1)) last) = true then ([], [], 2)
    else (ofL ((b.drop (rd b).2.1).take (rd b).1) :: (run n false (ofL ((b.drop (rd b).2.1).take (rd b).1)) ((b.drop (rd b).2.1).drop (rd b).1)).1, (run n false (ofL ((b.drop (rd b).2.1).take (rd b).1)) ((b.drop (rd b).2.1).drop (rd b).1)).2)
def model (b : List UInt8) : List ByteArray × List UInt8 × Nat :=
  if (rd b).2.2 ≠ 0 then ([], [], (rd b).2.2)
  else if (b.drop (rd b).2.1).length < (rd b).1 then ([], [], 1)
  else run (rd b).1 true ⟨#[]⟩ (b.drop (rd b).2.1)

/-! ### Views -/
/-- A view of the bytes l. -/
def View (w : World) (v : Value) (l : List UInt8) : Prop := ∃ p c, v = .slice p l.length c ∧ Bytes w p l ∧ l.length ≤ c ∧ c ≤ 9223372036854775807 ∧ (p = none → l = [])

theorem Bytes.keep {w w' : World} {p : Option Addr} {l : List UInt8} (h : Bytes w p l) (hb : Below w.heap.size w w') : Bytes w' p l := fun h0 => by
  obtain ⟨b, o, e, hc⟩ := h h0
  exact ⟨b, o, e, fun j hj => by rw [hb.cell (World.block_lt_of_cell? w _ (hc j hj)), hc j hj]⟩

theorem size5 : (Ybaf.prog.info? 5).map (·.size) = some 1 := by kernel_rfl
def qFrom (p : Option Addr) (c k : Nat) : Option Addr := if c = k then p else p.map (·.add k)
theorem slice_from (w : World) (p : Option Addr) (n c k : Nat) (h : k ≤ n) (hc : n ≤ c) (hb : c ≤ 9223372036854775807) (kd : IntKind) :
    (Instr.slice 22 (.slice p n c) (some (.int kd k)) none none).run Ybaf.prog w = .ok (.slice (qFrom p c k) (n - k) (c - k)) w := by
  have u := run_underlying (w := w) Ybaf.underlying22
  have hk : ¬ n < k := by omega
  simp [Instr.slice, u, go_sem, hk, qFrom]
theorem slice_to (w : World) (p : Option Addr) (n c k : Nat) (h : k ≤ n) (hc : n ≤ c) (hb : c ≤ 9223372036854775807) (kd : IntKind) :
    (Instr.slice 22 (.slice p n c) none (some (.int kd k)) none).run Ybaf.prog w = .ok (.slice p k c) w := by
  have u := run_underlying (w := w) Ybaf.underlying22
  simp [Instr.slice, u, go_sem]
  intro hlt
  omega
theorem slice_to3 (w : World) (p : Option Addr) (n c k : Nat) (h : k ≤ n) (hc : n ≤ c) (hb : c ≤ 9223372036854775807) (kd : IntKind) :
    (Instr.slice 22 (.slice p n c) none (some (.int kd k)) (some (.int kd k))).run Ybaf.prog w = .ok (.slice p k k) w := by
  have u := run_underlying (w := w) Ybaf.underlying22
  have hk : ¬ c < k := by omega
  simp [Instr.slice, u, go_sem, hk]

theorem Bytes.from_ {w : World} {p : Option Addr} {l : List UInt8} {c : Nat} (h : Bytes w p l) (k : Nat) (hc : l.length ≤ c) : Bytes w (qFrom p c k) (l.drop k) := fun h0 => by
  have hk : k < l.length := by simp at h0; omega
  obtain ⟨b, o, rfl, hcc⟩ := h (by omega)
  refine ⟨b, o + k, ?_, fun j hj => ?_⟩
  · unfold qFrom
    rw [if_neg (by omega)]
    simp [Go.WideShapes.add_plain]
  · have := hcc (k + j) (by simp at hj; omega)
    rw [Nat.add_assoc, this]
    simp
theorem Bytes.to_ {w : World} {p : Option Addr} {l : List UInt8} (h : Bytes w p l) (k : Nat) : Bytes w p (l.take k) := fun h0 => by
  have hk : 0 < l.length := by simp at h0; omega
  obtain ⟨b, o, rfl, hcc⟩ := h hk
  refine ⟨b, o, rfl, fun j hj => ?_⟩
  have := hcc j (by simp at hj; omega)
  rw [this]
  simp

theorem convert_back {w : World} {p : Option Addr} {l : List UInt8} {c : Nat} (h : Bytes w p l) (hn : p = none → l = []) : (convert 22 9 (.slice p l.length c)).run Ybaf.prog w = .ok (.string (ofL l)) w := by
  by_cases h0 : 0 < l.length
  · obtain ⟨b, o, rfl, hcc⟩ := h h0
    exact run_convert_bytes_back w 22 9 5 ⟨b, o, none⟩ c l Ybaf.underlying22 Ybaf.underlying5 Ybaf.underlying9 fun j hj => by rw [Go.WideShapes.add_plain]; exact hcc j hj
  · obtain rfl : l = [] := List.eq_nil_of_length_eq_zero (by omega)
    rw [run_convert_bytes_string w 22 9 5 _ _ c Ybaf.underlying22 Ybaf.underlying5 Ybaf.underlying9]
    cases p <;> simp [Conv.bytesToString, loadCells]
    all_goals rfl

theorem View.from_ {w : World} {p : Option Addr} {l : List UInt8} {c : Nat} (h : Bytes w p l) (hc : l.length ≤ c) (hb : c ≤ 9223372036854775807) (hn : p = none → l = []) (k : Nat) (hk : k ≤ l.length) : View w (.slice (qFrom p c k) (l.length - k) (c - k)) (l.drop k) := by
  refine ⟨qFrom p c k, c - k, by rw [List.length_drop], h.from_ k hc, by rw [List.length_drop]; omega, by omega, fun h => ?_⟩
  have : p = none := by
    unfold qFrom at h
    split at h
    · exact h
    · simpa using h
  rw [hn this]; simp
end Go.Proofs.YbulkefaeFmt
