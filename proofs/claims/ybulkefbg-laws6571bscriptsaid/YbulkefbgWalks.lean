/- The callees' contracts: the field reader. -/
import Derived.Test.YbulkefbgRows
import Derived.Test.YbulkefbgShelf
import Derived.WalkKit
import Derived.Handy
import Derived.Deep.Light
import Derived.Deep.QuietTactic
import Derived.BigQuiet
import Derived.WalkSpells
import Derived.WalkLawsBesides
import Derived.Lib.Builder
namespace Go.Proofs.Ybulkefbg.Rd
open Go.RowKit
set_option linter.unusedVariables false

theorem eqnil (w : World) (a : Option Addr) (n c : Nat) : (binOp .eql 22 (.slice a n c) (.slice none 0 0)).run Yba.prog w = .ok (.bool a.isNone) w :=
  Lib.run_eql_slice_nil w 22 5 a n c 0 0 Yba.underlying22

theorem neqsame (w : World) (a : Addr) : (binOp .neq 37 (.pointer (some a)) (.pointer (some a))).run Yba.prog w = .ok (.bool false) w := by
  obtain ⟨j, hj⟩ := Option.isSome_iff_exists.1 (by kernel_rfl : (Yba.prog.info? 5).isSome = true)
  exact Lib.run_neq_ptr_same w a Yba.underlying37 hj

set_option maxHeartbeats 400000 in
theorem pos_any (g : Nat) (base i : Int) (w : World) (h1 : w.cell? ⟨g, 1, none⟩ = some (.int .u64 base)) (h2 : w.cell? ⟨g, 2, none⟩ = some (.int .i64 i)) :
    Calls Yba.prog 13 #[.pointer (some ⟨g, 0, none⟩)] w fun e w' => e = .returned (.int .u64 (IntKind.u64.wrap (base + IntKind.u64.wrap i))) ∧ ∃ n, w' = w.drewN n := by
  go_enter Yba.func13, Yba.ntmps13
  go_wp2
  go_quiet (fail)
  go_wp2
  go_ret
  exact ⟨rfl, _, rfl⟩

set_option maxHeartbeats 400000 in
/-- The first stop: the offset of the next field is recorded. -/
theorem stop_new (g : Nat) (base i fa : Int) (w : World) (h1 : w.cell? ⟨g, 1, none⟩ = some (.int .u64 base)) (h2 : w.cell? ⟨g, 2, none⟩ = some (.int .i64 i)) (h3 : w.cell? ⟨g, 3, none⟩ = some (.int .u64 fa)) (h4 : w.cell? ⟨g, 4, none⟩ = some (.bool false))
   (f3 : w.frozen? ⟨g, 3, none⟩ = false) (f4 : w.frozen? ⟨g, 4, none⟩ = false) :
    Calls Yba.prog 6 #[.pointer (some ⟨g, 0, none⟩)] w fun e w' => e = .returned (.tuple #[]) ∧ ∃ n, w' = ((w.setCell ⟨g, 4, none⟩ (.bool true)).setCell ⟨g, 3, none⟩ (.int .u64 (IntKind.u64.wrap (base + IntKind.u64.wrap i)))).drewN n := by
  go_enter Yba.func6, Yba.ntmps6
  go_wp2_with (go_at_call 13; refine (pos_any g base i _ h1 h2).mono ?_; rintro e w' ⟨rfl, n, rfl⟩)
  go_end0
  exact ⟨rfl, _, rfl⟩

theorem stop_new' (g : Nat) (base i fa v : Int) (w : World) (hv : v = IntKind.u64.wrap (base + IntKind.u64.wrap i)) (h1 : w.cell? ⟨g, 1, none⟩ = some (.int .u64 base)) (h2 : w.cell? ⟨g, 2, none⟩ = some (.int .i64 i)) (h3 : w.cell? ⟨g, 3, none⟩ = some (.int .u64 fa)) (h4 : w.cell? ⟨g, 4, none⟩ = some (.bool false))
   (f3 : w.frozen? ⟨g, 3, none⟩ = false) (f4 : w.frozen? ⟨g, 4, none⟩ = false) :
    Calls Yba.prog 6 #[.pointer (some ⟨g, 0, none⟩)] w fun e w' => e = .returned (.tuple #[]) ∧ ∃ n, w' = ((w.setCell ⟨g, 4, none⟩ (.bool true)).setCell ⟨g, 3, none⟩ (.int .u64 v)).drewN n := by
  rw [hv]; exact stop_new g base i fa w h1 h2 h3 h4 f3 f4

set_option maxHeartbeats 400000 in
/-- A later stop: nothing turns. -/
theorem stop_old (g : Nat) (w : World) (h4 : w.cell? ⟨g, 4, none⟩ = some (.bool true)) :
    Calls Yba.prog 6 #[.pointer (some ⟨g, 0, none⟩)] w fun e w' => e = .returned (.tuple #[]) ∧ w' = w := by
  go_enter Yba.func6, Yba.ntmps6
  go_wp2
  go_end0
  exact ⟨rfl, rfl⟩

set_option maxHeartbeats 400000 in
theorem same_self (a : Option Addr) (n c : Nat) (w : World) (hn : n ≤ c) (hc : c ≤ maxLen) (ha : a = none → n = 0) :
    Calls Yba.prog 7 #[.slice a n c, .slice a n c] w fun e w' => e = .returned (.bool true) ∧ ∃ k, w' = w.drewN k := by
  have e1 := eqnil
  have e2 := neqsame
  unfold maxLen at hc
  by_cases h0 : 0 < n
  · obtain ⟨x, rfl⟩ : ∃ x, a = some x := by cases a with | none => simp at ha; omega | some x => exact ⟨x, rfl⟩
    have hI : (0 : Int) < (n : Int) := by omega
    clear ha
    go_enter Yba.func7, Yba.ntmps7
    go_wp2
    go_quiet (fail)
    go_wp2
    go_ret
    exact ⟨rfl, _, rfl⟩
  · obtain rfl : n = 0 := by omega
    clear ha
    go_enter Yba.func7, Yba.ntmps7
    go_wp2
    go_quiet (fail)
    go_wp2
    go_ret
    exact ⟨rfl, _, rfl⟩

/-- A slice of integers that came in: it is nil; or it leads to a row of 'cap' cells, the numbers 'zs' (the first 'len' are its elements, the rest its spare room), each fitting its kind. -/
def IsRow (k : IntKind) (w : World) (a : Option Addr) (len cap : Nat) (zs : List Int) : Prop :=
  (a = none ∧ len = 0 ∧ cap = 0 ∧ zs = []) ∨
  ∃ x, a = some x ∧ len ≤ cap ∧ cap ≤ maxLen ∧ zs.length = cap ∧ (∀ i, i < zs.length → w.cell? (x.add i) = some (.int k (zs.getD i 0))) ∧ ∀ n ∈ zs, (Lit.int k n).wf = true

/-- Clone, of whatever slice: the same bytes, in new memory; nil just of nil. -/
theorem clone_any (a0 : Option Addr) (len0 cap0 : Nat) (z0 : List Int) (w : World) (hbig : len0 ≤ 1048576) (w0 : IsRow .u8 w a0 len0 cap0 z0) :
    Calls Yba.prog 5 #[.slice a0 len0 cap0] w fun e w' => ∃ p c, e = .returned (.slice p len0 c) ∧ p.isNone = a0.isNone ∧ Lib.BytesIn w' p len0 (z0.take len0) ∧ Below w.heap.size w w' := by
  rcases w0 with ⟨rfl, rfl, rfl, rfl⟩ | ⟨x, rfl, hl, hm, hz, hc, hw⟩
  · refine (Yba.bytes_Clone_nil 0 0 w).mono ?_
    rintro e w' ⟨rfl, rfl⟩
    exact ⟨none, 0, rfl, rfl, Lib.BytesIn.nil _ _ _, Below.refl _ _⟩
  · refine (Yba.bytes_Clone_at x len0 cap0 (z0.take len0) w (by simp; omega) (by omega) (fun i hi => ?_)).mono ?_
    · rw [hc i (by omega)]
      simp [List.getD, hi]
    · rintro e w' ⟨v', rfl, hown, hne, hb⟩
      obtain ⟨h1, h2⟩ := hown
      rcases h2 with ⟨rfl, hn⟩ | ⟨g, cap, cur, rfl, hg, hh, hle, hcm, hs, ht⟩
      · exact absurd rfl hne
      · refine ⟨_, cap, rfl, rfl, fun hpos => ⟨g, 0, rfl, fun i hi => ?_⟩, hb⟩
        simp only [World.cell?, hh]
        have : cur.toList[i]? = ((z0.take len0).map (Value.int .u8))[i]? := by
          rw [← ht, List.getElem?_take, if_pos (by omega)]
        simp at this
        simp [this, List.getD, hi]
        have : i < z0.length := by omega
        simp [this]

/-- The bytes that came in, read in any world that has kept old memory. -/
theorem IsRow.bytesIn {w w' : World} {a0 : Option Addr} {len0 cap0 : Nat} {z0 : List Int} (w0 : IsRow .u8 w a0 len0 cap0 z0) (hb : Below w.heap.size w w') : Lib.BytesIn w' a0 len0 (z0.take len0) := by
  rcases w0 with ⟨rfl, rfl, rfl, rfl⟩ | ⟨x, rfl, hl, hm, hz, hc, hw⟩
  · exact Lib.BytesIn.nil _ _ _
  · refine Lib.BytesIn.of_cells fun i hi => ?_
    have h := hc i (by omega)
    rw [hb.cell (World.block_lt_of_cell? w _ h), h]
    simp [List.getD, hi]

theorem IsRow.len_le {w : World} {a0 : Option Addr} {len0 cap0 : Nat} {z0 : List Int} (w0 : IsRow .u8 w a0 len0 cap0 z0) : len0 ≤ cap0 ∧ cap0 ≤ maxLen ∧ (a0 = none → len0 = 0) ∧ (z0.take len0).length = len0 := by
  rcases w0 with ⟨rfl, rfl, rfl, rfl⟩ | ⟨x, rfl, hl, hm, hz, hc, hw⟩
  · simp [maxLen]
  · exact ⟨hl, hm, by simp, by simp; omega⟩

theorem bytesIn_below {w w' : World} {a : Option Addr} {n : Nat} {xs : List Int} (h : Lib.BytesIn w a n xs) (hb : Below w.heap.size w w') : Lib.BytesIn w' a n xs := fun hn => by
  obtain ⟨b, o, rfl, hc⟩ := h hn
  exact ⟨b, o, rfl, fun i hi => by rw [hb.cell (World.block_lt_of_cell? w _ (hc i hi)), hc i hi]⟩

theorem Below.drewN {B : Nat} {a w : World} (h : Below B a w) (n : Nat) : Below B a (w.drewN n) := ⟨h.os, h.tape, h.output, h.size, h.block⟩
end Go.Proofs.Ybulkefbg.Rd
