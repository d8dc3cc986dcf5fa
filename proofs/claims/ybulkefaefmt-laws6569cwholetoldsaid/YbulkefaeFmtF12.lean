/- LawS6569CWhole: the library's calls at our words: bytes.Clone, bytes.Equal, slices.Clone, slices.Sort. -/
import Derived.Test.YbulkefaeFmtF11
import Derived.Sort.OwnSorted
namespace Go.Proofs.YbulkefaeFmt
open Go.RowKit Go.Sort
set_option linter.unusedVariables false

def nums (l : List UInt8) : List Int := l.map fun b => (b.toNat : Int)
theorem nums_getD (l : List UInt8) (j : Nat) (hj : j < l.length) : (nums l).getD j 0 = (l[j]).toNat := by simp [nums, List.getD, hj]
theorem bytes_in {w : World} {p : Option Addr} {l : List UInt8} (h : Bytes w p l) : Lib.BytesIn w p l.length (nums l) := fun h0 => by
  obtain ⟨b, o, e, hc⟩ := h h0
  exact ⟨b, o, e, fun i hi => by rw [hc i hi, nums_getD l i hi]⟩

theorem equal_any (p q : Option Addr) (l : List UInt8) (c d : Nat) (w : World) (h1 : Bytes w p l) (h2 : Bytes w q l) : Calls Ybaf.prog 11 #[.slice p l.length c, .slice q l.length d] w fun e w' => e = .returned (.bool true) ∧ w' = w := by
  refine (Ybaf.bytes_Equal_all p q l.length c l.length d (nums l) (nums l) w (by simp [nums]) (by simp [nums]) (bytes_in h1) (bytes_in h2)).mono ?_
  rintro e w' ⟨rfl, rfl⟩
  exact ⟨by simp, rfl⟩

/-- What bytes.Clone hands back. -/
def Cloned (w : World) (l : List UInt8) (e : Ending) (w' : World) : Prop :=
  ∃ q d, e = .returned (.slice q l.length d) ∧ Bytes w' q l ∧ l.length ≤ d ∧ d ≤ 9223372036854775807 ∧ (q = none → l = []) ∧ (∀ x, q = some x → w.heap.size ≤ x.block ∧ x.block < w'.heap.size) ∧ Below w.heap.size w w'

theorem buf_cloned {w w' : World} {v : Value} {l : List UInt8} (h : Buf w w' v l) : Cloned w l (.returned v) w' := by
  rcases h.1.2 with ⟨rfl, hn⟩ | ⟨g, cap, cur, rfl, hb, hg, h1, h2, h3, h4⟩
  · obtain rfl : l = [] := List.eq_nil_of_length_eq_zero hn
    exact ⟨none, 0, rfl, fun h => absurd h (Nat.lt_irrefl 0), Nat.le_refl _, by omega, fun _ => rfl, by simp, h.2⟩
  · obtain ⟨p, c, e, hby, hlc, hcc, hpn, _⟩ := buf_bytes h
    simp only [Value.slice.injEq] at e
    obtain ⟨rfl, _, rfl⟩ := e
    exact ⟨_, _, rfl, hby, hlc, hcc, hpn, fun x hx => by simp at hx; subst hx; exact ⟨hb, (Array.getElem?_eq_some_iff.1 hg).1⟩, h.2⟩

theorem clone_any (p : Option Addr) (l : List UInt8) (c : Nat) (w : World) (h : Bytes w p l) (hn : p = none → l = []) (hl : l.length ≤ 140737488355328) : Calls Ybaf.prog 7 #[.slice p l.length c] w (Cloned w l) := by
  cases p with
  | none =>
    obtain rfl := hn rfl
    refine (Ybaf.bytes_Clone_nil 0 c w).mono ?_
    rintro e w' ⟨rfl, rfl⟩
    exact ⟨none, 0, rfl, fun h => absurd h (Nat.lt_irrefl 0), Nat.le_refl _, by omega, fun _ => rfl, by simp, Below.refl _ _⟩
  | some a =>
    refine (Ybaf.bytes_Clone_at a l.length c (nums l) w (by simp [nums]) hl fun i hi => ?_).mono ?_
    · obtain ⟨b, o, e, hc⟩ := h (by omega)
      simp at e; subst e
      rw [Go.WideShapes.add_plain, hc i hi, nums_getD l i hi]
    · rintro e w' ⟨v', rfl, hown, _, hb⟩
      refine buf_cloned ⟨?_, hb⟩
      have : (nums l).map (Value.int .u8) = Lib.byteCells l := by simp [nums, Lib.byteCells]
      rw [← this]
      exact hown

/-- The strings ss lie at p. -/
def StrRow (w : World) (p : Option Addr) (ss : List ByteArray) : Prop :=
  0 < ss.length → ∃ b o, p = some ⟨b, o, none⟩ ∧ ∀ j, j < ss.length → w.cell? ⟨b, o + j, none⟩ = some (.string (ss.getD j ByteArray.empty))

theorem sclone_any (p : Option Addr) (ss : List ByteArray) (c : Nat) (w : World) (h : StrRow w p ss) (hn : p = none → ss = []) (hl : ss.length ≤ 1048576) : Calls Ybaf.prog 4 #[.slice p ss.length c] w fun e w' => ∃ v', e = .returned v' ∧ Strs w w' v' ss := by
  cases p with
  | none =>
    obtain rfl := hn rfl
    refine (Ybaf.slices_Clone_string_nil 0 c w).mono ?_
    rintro e w' ⟨rfl, rfl⟩
    exact ⟨_, rfl, strs_nil w'⟩
  | some a =>
    by_cases h0 : 0 < ss.length
    · obtain ⟨b, o, e, hc⟩ := h h0
      simp at e; subst e
      refine (Ybaf.slices_Clone_string b o ss.length c ss w (Nat.le_refl _) (by omega) hc).mono ?_
      rintro e w' ⟨v', rfl, hown, _, hb⟩
      rw [List.take_length] at hown
      exact ⟨v', rfl, hown, hb⟩
    · obtain rfl : ss = [] := List.eq_nil_of_length_eq_zero (by omega)
      refine (Ybaf.slices_Clone_string_zero a c w).mono ?_
      rintro e w' ⟨v', rfl, hown, _, hb⟩
      exact ⟨v', rfl, hown, hb⟩

theorem sort_any (w wr : World) (v : Value) (ss : List ByteArray) (h : Strs w wr v ss) (hl : ss.length ≤ 1048576) :
    Calls Ybaf.prog 5 #[v] wr fun e w' => e = .returned (.tuple #[]) ∧ ∃ ts, Strs w w' v ts ∧ ts.length = ss.length ∧ ∀ t ∈ ts, t ∈ ss := by
  rcases h.1.2 with ⟨rfl, hn⟩ | ⟨g, cap, cur, rfl, hb, hg, h1, h2, h3, h4⟩
  · refine (Ybaf.slices_Sort_string_none none 0 wr).mono ?_
    rintro e w' ⟨rfl, rfl⟩
    exact ⟨rfl, ss, h, rfl, fun _ h => h⟩
  · have e1 : ss.map Value.string = (ss.map (·.data.toList)).map encStr := by simp
    have hlen : (ss.map (·.data.toList)).length = ss.length := by simp
    have hH : Holds encStr wr g 0 (ss.map (·.data.toList)).toArray := holds_of_block hg (by rw [hlen, ← e1]; simpa using h4)
    have := Ybaf.slices_Sort_string g 0 cap (ss.map (·.data.toList)) wr hH (Array.getElem?_eq_some_iff.1 hg).1 (by rw [hlen]; omega)
    rw [hlen] at this
    refine this.mono ?_
    rintro e w' ⟨rfl, n, os, rfl⟩
    have hlt : ((ss.map (·.data.toList)).mergeSort fun x y => decide (x ≤ y)).length = (ss.map (·.data.toList)).length := by simp
    refine ⟨rfl, ((ss.map (·.data.toList)).mergeSort fun x y => decide (x ≤ y)).map ofL, ⟨?_, h.2.grown (grownBy_sorted _) h.2.size fun k hk => by simp at hk; omega⟩, by simp, fun t ht => ?_⟩
    · have hs := ownsRow_sorted (n := n) (os := os) hlt hb hg (by rw [hlen]; exact h1) h2 h3
      rw [hlen] at hs
      simp only [List.length_map, List.length_mergeSort, List.map_map] at hs ⊢
      exact hs
    · simp only [List.mem_map, List.mem_mergeSort] at ht
      obtain ⟨x, ⟨y, hy, rfl⟩, rfl⟩ := ht
      exact hy
end Go.Proofs.YbulkefaeFmt
