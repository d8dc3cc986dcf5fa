/- LawS6572BPart: the deep copy. -/
import Derived.Test.YbulkefbuB1
import Derived.Laws.CopyOwn
namespace Go.Proofs.Ybulkefbu.B
open Go.RowKit
set_option linter.unusedVariables false

def nils (n : Nat) : Array Value := madeCells #[.slice none 0 0] n
def blanks (n : Nat) : List Value := List.replicate n (.string ByteArray.empty)
theorem nils_size (n : Nat) : (nils n).size = n := size_madeCells _ _
theorem nils_get (n i : Nat) (h : i < n) : (nils n)[i]? = some (.slice none 0 0) := by
  simp [nils, madeCells, h, Nat.mod_one]

theorem info22 : (Yba.prog.info? 22).map (fun i => (i.zero, i.size, i.bytes)) = some (some (.slice none 0 0), 1, 24) := by kernel_rfl
theorem info9 : (Yba.prog.info? 9).map (fun i => (i.zero, i.size, i.bytes)) = some (some (.string ByteArray.empty), 1, 16) := by kernel_rfl
theorem size9 : (Yba.prog.info? 9).map (·.size) = some 1 := by kernel_rfl

theorem mk25 (n : Nat) (hn : n ≤ 5864062014805) (w : World) : (Instr.makeSlice 25 (.int .i64 n) (.int .i64 n)).run Yba.prog w = .ok (.slice (some ⟨w.heap.size, 0, none⟩) n n) (w.alloc (.cells (nils n) 22)) := by
  obtain ⟨i, h1, h2⟩ := Option.map_eq_some_iff.1 info22
  simp only [Prod.mk.injEq] at h2
  obtain ⟨h2, h3, h4⟩ := h2
  have := run_make (P := Yba.prog) w 25 22 i _ Yba.underlying25 h1 h2 .i64 .i64 n n (by omega) (Int.le_refl _) (by rw [h4]; omega) (by omega)
  rw [this, h3]
  simp [nils, Value.cells]

theorem mk22 (n : Nat) (hn : n ≤ 8796093022207) (w : World) : (Instr.makeSlice 22 (.int .i64 n) (.int .i64 n)).run Yba.prog w = .ok (.slice (some ⟨w.heap.size, 0, none⟩) n n) (w.alloc (.cells (blanks n).toArray 9)) := by
  obtain ⟨i, h1, h2⟩ := Option.map_eq_some_iff.1 info9
  simp only [Prod.mk.injEq] at h2
  obtain ⟨h2, h3, h4⟩ := h2
  have := run_make (P := Yba.prog) w 22 9 i _ Yba.underlying22 h1 h2 .i64 .i64 n n (by omega) (Int.le_refl _) (by rw [h4]; omega) (by omega)
  rw [this, h3]
  have e : (blanks n).toArray = madeCells #[.string ByteArray.empty] n := by
    apply Array.ext'
    rw [toList_madeCells_one]; simp [blanks]
  rw [e]
  simp [Value.cells]

/-- A row of the call's own, its block above h. -/
def RowN (w : World) (h : Nat) (p : Option Addr) (ss : List ByteArray) : Prop :=
  0 < ss.length → ∃ b, p = some ⟨b, 0, none⟩ ∧ h < b ∧ ∀ j, j < ss.length → w.cell? ⟨b, 0 + j, none⟩ = some (.string (ss.getD j ByteArray.empty))

/-- Behind the k-th round. -/
def Out (w0 w : World) (n k : Nat) (N : Nat → Bool) (R : Nat → List ByteArray) : Prop :=
  Below w0.heap.size w0 w ∧ ∃ cur : Array Value, w.heap[w0.heap.size]? = some (.cells cur 22 (0, 0)) ∧ cur.size = n ∧ (∀ i, k ≤ i → i < n → cur[i]? = some (.slice none 0 0)) ∧
    ∀ i, i < k → ∃ q, cur[i]? = some (.slice q (R i).length (R i).length) ∧ q.isNone = N i ∧ RowN w w0.heap.size q (R i)

theorem RowN.keep {w w' : World} {h : Nat} {p : Option Addr} {ss : List ByteArray} (hr : RowN w h p ss) (hb : Below w.heap.size w w') : RowN w' h p ss := fun h0 => by
  obtain ⟨b, e, hl, hc⟩ := hr h0
  exact ⟨b, e, hl, fun j hj => cell_keep hb (hc j hj)⟩
theorem RowN.set {w : World} {h : Nat} {p : Option Addr} {ss : List ByteArray} (hr : RowN w h p ss) (o : Nat) (v : Value) : RowN (w.setCell ⟨h, o, none⟩ v) h p ss := fun h0 => by
  obtain ⟨b, e, hl, hc⟩ := hr h0
  exact ⟨b, e, hl, fun j hj => (World.cell?_of_block (w := w) (a := ⟨b, 0 + j, none⟩) (Below.heap_setCell w ⟨h, o, none⟩ v b (by simp; omega))).trans (hc j hj)⟩

theorem out_start (w : World) (n : Nat) (N : Nat → Bool) (R : Nat → List ByteArray) : Out w (w.alloc (.cells (nils n) 22)) n 0 N R :=
  ⟨(Below.refl _ _).alloc (Nat.le_refl _) _, nils n, heap_alloc_new w _, nils_size n, fun i _ hi => nils_get n i hi, fun i hi => absurd hi (Nat.not_lt_zero i)⟩

/-- A nil row: nothing is laid. -/
theorem out_nil {w0 w : World} {n k : Nat} {N : Nat → Bool} {R : Nat → List ByteArray} (h : Out w0 w n k N R) (hk : k < n) (hN : N k = true) (hR : (R k).length = 0) : Out w0 w n (k + 1) N R := by
  obtain ⟨hb, cur, h1, h2, h3, h4⟩ := h
  refine ⟨hb, cur, h1, h2, fun i hi => h3 i (by omega), fun i hi => ?_⟩
  by_cases e : i = k
  · subst e
    exact ⟨none, by rw [h3 i (Nat.le_refl _) hk, hR], by simp [hN], fun h0 => by omega⟩
  · exact h4 i (by omega)

/-- A row is copied and laid. -/
theorem out_row {w0 w w2 : World} {n k : Nat} {N : Nat → Bool} {R : Nat → List ByteArray} (h : Out w0 w n k N R) (hk : k < n) (hN : N k = false) (hb2 : Below w.heap.size w w2)
    (hg : w2.heap[w.heap.size]? = some (.cells ((R k).map Value.string).toArray 9 (0, 0))) :
    Out w0 (w2.setCell ⟨w0.heap.size, k, none⟩ (.slice (some ⟨w.heap.size, 0, none⟩) (R k).length (R k).length)) n (k + 1) N R := by
  obtain ⟨hb, cur, h1, h2, h3, h4⟩ := h
  have hlt : w0.heap.size < w.heap.size := by obtain ⟨x, _⟩ := Array.getElem?_eq_some_iff.1 h1; exact x
  refine ⟨(hb.trans (hb2.mono hb.size)).setCell (Nat.le_refl _) _, cur.setIfInBounds k (.slice (some ⟨w.heap.size, 0, none⟩) (R k).length (R k).length), ?_, by simpa using h2, fun i hi hin => ?_, fun i hi => ?_⟩
  · have : w2.heap[w0.heap.size]? = some (.cells cur 22 (0, 0)) := (hb2.block _ hlt).trans h1
    simp [World.setCell, Array.getElem?_modify, this]
  · rw [Array.getElem?_setIfInBounds_ne (by omega)]; exact h3 i (by omega) hin
  · by_cases e : i = k
    · subst e
      refine ⟨some ⟨w.heap.size, 0, none⟩, by simp [h2, hk], by simp [hN], fun h0 => ⟨w.heap.size, rfl, hlt, fun j hj => ?_⟩⟩
      refine (World.cell?_of_block (w := w2) (a := ⟨w.heap.size, 0 + j, none⟩) (Below.heap_setCell w2 ⟨w0.heap.size, i, none⟩ _ w.heap.size (by simp; omega))).trans ?_
      unfold World.cell?
      simp only [hg]
      simp [List.getD, hj]
    · obtain ⟨q, g1, g2, g3⟩ := h4 i (by omega)
      exact ⟨q, by rw [Array.getElem?_setIfInBounds_ne (by omega)]; exact g1, g2, (g3.keep hb2).set _ _⟩

/-- At the end the copy reads as the rows do. -/
theorem out_rows {w0 w : World} {n : Nat} {N : Nat → Bool} {R : Nat → List ByteArray} (h : Out w0 w n n N R) : Rows2 w (some ⟨w0.heap.size, 0, none⟩) n N R := fun h0 => by
  obtain ⟨hb, cur, h1, h2, h3, h4⟩ := h
  refine ⟨w0.heap.size, 0, rfl, fun i hi => ?_⟩
  obtain ⟨q, g1, g2, g3⟩ := h4 i hi
  refine ⟨q, (R i).length, ?_, g2, fun hh => ?_⟩
  · unfold World.cell?
    simp only [h1]
    simpa using g1
  · obtain ⟨b, e, _, hc⟩ := g3 hh
    exact ⟨b, 0, e, hc⟩

/-- 'copy' from a row into a new row of the same length. -/
theorem copy_run (w : World) (y : Addr) (ss : List ByteArray) (cc : Nat) (h : Row w (some y) ss) :
    ∃ w2, (Builtin.copy_ #[22, 22] 3 #[.slice (some ⟨w.heap.size, 0, none⟩) ss.length ss.length, .slice (some y) ss.length cc]).run Yba.prog (w.alloc (.cells (blanks ss.length).toArray 9)) = .ok (.int .i64 ss.length) w2 ∧
      w2.heap[w.heap.size]? = some (.cells (ss.map Value.string).toArray 9 (0, 0)) ∧ Below w.heap.size w w2 := by
  have hb : Below w.heap.size w (w.alloc (.cells (blanks ss.length).toArray 9)) := (Below.refl _ _).alloc (Nat.le_refl _) _
  have hg := heap_alloc_new w (.cells (blanks ss.length).toArray 9)
  by_cases h0 : 0 < ss.length
  · obtain ⟨b, o, hy, hc⟩ := h h0
    obtain rfl : y = ⟨b, o, none⟩ := by simpa using hy
    have hrun := run_copy_row (P := Yba.prog) (w.alloc (.cells (blanks ss.length).toArray 9)) 22 22 3 9 w.heap.size 0 ss.length ss.length ⟨b, o, none⟩ ss.length cc (blanks ss.length).toArray 9 (ss.map Value.string) Yba.underlying22 size9 hg (by simp)
      (fun j v hv => by
        have hj : j < ss.length := by
          have := (List.getElem?_eq_some_iff.1 hv).1; simpa using this
        rw [Go.WideShapes.add_plain]
        rw [cell_keep hb (hc j hj)]
        simp [hj] at hv
        simp [List.getD, hj, hv]) (by simp [blanks]) (by simp [Value.oneCell'])
    rw [List.length_map] at hrun
    refine ⟨_, hrun, ?_, below_setRow hb (Nat.le_refl _) _⟩
    rw [setRow_heap _ _ _ _ _ _ hg]
    simp [blanks]
  · have e : ss = [] := List.eq_nil_of_length_eq_zero (by omega)
    subst e
    refine ⟨_, run_copy_none (P := Yba.prog) _ 22 22 3 9 _ _ 0 0 0 cc Yba.underlying22 size9 rfl, ?_, hb⟩
    simpa [blanks] using hg

theorem out_cell {w0 w w2 : World} {n k : Nat} {N : Nat → Bool} {R : Nat → List ByteArray} (h : Out w0 w n k N R) (hk : k < n) (hb2 : Below w.heap.size w w2) : w2.cell? ⟨w0.heap.size, k, none⟩ = some (.slice none 0 0) ∧ w2.frozen? ⟨w0.heap.size, k, none⟩ = false := by
  obtain ⟨hb, cur, h1, h2, h3, h4⟩ := h
  have hlt : w0.heap.size < w.heap.size := by obtain ⟨x, _⟩ := Array.getElem?_eq_some_iff.1 h1; exact x
  have : w2.heap[w0.heap.size]? = some (.cells cur 22 (0, 0)) := (hb2.block _ hlt).trans h1
  constructor
  · unfold World.cell?
    simp only [this]
    simpa using h3 k (Nat.le_refl _) hk
  · simp [World.frozen?, this]

set_option maxHeartbeats 1000000 in
theorem copy_nil (c : Nat) (w : World) : Calls Yba.prog 8 #[.slice none 0 c] w fun e w' => e = .returned (.slice none 0 0) ∧ w' = w := by
  have e1 := eqnil25
  go_enter Yba.func8, Yba.ntmps8
  go_wp2
  go_ret
  exact ⟨rfl, rfl⟩

set_option maxHeartbeats 2000000 in
theorem copy_some (x : Addr) (n : Nat) (N : Nat → Bool) (R : Nat → List ByteArray) (c : Nat) (w : World) (h : Rows2 w (some x) n N R) (hn : n ≤ 5864062014805) (hr : ∀ i, i < n → (R i).length ≤ 8796093022207) (hN : ∀ i, i < n → N i = true → (R i).length = 0) :
    Calls Yba.prog 8 #[.slice (some x) n c] w fun e w' => e = .returned (.slice (some ⟨w.heap.size, 0, none⟩) n n) ∧ Rows2 w' (some ⟨w.heap.size, 0, none⟩) n N R ∧ Below w.heap.size w w' := by
  have e1 := eqnil25
  have e2 := neqnil22
  have H := Hid.mk h
  have HR := Hid.mk hr
  have HN := Hid.mk hN
  have hmk := mk25 n hn
  clear h hr hN
  go_enter Yba.func8, Yba.ntmps8
  go_wp2
  go_loopw [14] (fun i wr => ∃ k : Nat, k ≤ n ∧ i = .int .i64 k ∧ Out w wr n k N R) (fun i _ => n - (intOf i).toNat)
  case atStart => exact ⟨0, Nat.zero_le _, rfl, out_start w n N R⟩
  case round =>
    obtain ⟨k, hk, rfl, hO⟩ := hrel
    by_cases hlt : k < n
    · obtain ⟨b, o, hx, hc⟩ := H.out (by omega)
      obtain rfl : x = ⟨b, o, none⟩ := by simpa using hx
      obtain ⟨q, cc, c1, n1, r1⟩ := hc k hlt
      replace c1 := cell_keep hO.1 c1
      replace r1 := r1.keep hO.1
      have hkI : (k : Int) < (n : Int) := by omega
      clear hc hx hmk
      cases hq : q with
      | none =>
        subst hq
        have hNk : N k = true := by rw [← n1]; rfl
        have HNk := Hid.mk hNk
        have HO := Hid.mk hO
        clear hO n1 hNk r1
        go_wp2
        go_roundw
        case rel => exact ⟨k + 1, by omega, by go_num, out_nil HO.out hlt HNk.out (HN.out k hlt HNk.out)⟩
        case measure => simp [intOf]; omega
      | some y =>
        subst hq
        have hNk : N k = false := by rw [← n1]; rfl
        have HNk := Hid.mk hNk
        have HO := Hid.mk hO
        have HRk := Hid.mk r1
        have hrk := HR.out k hlt
        have hmk := mk22 (R k).length hrk
        clear hO n1 hNk
        obtain ⟨w2, hrun, hg2, hb2⟩ := copy_run wr y (R k) cc r1
        have hs1 : w2.cell? ⟨w.heap.size, k, none⟩ = some (.slice none 0 0) ∧ w2.frozen? ⟨w.heap.size, k, none⟩ = false := out_cell HO.out hlt hb2
        obtain ⟨s1, s2⟩ := hs1
        have HG2 := Hid.mk hg2
        have HB2 := Hid.mk hb2
        clear r1 hg2 hb2
        go_wp2
        go_roundw
        case rel => exact ⟨k + 1, by omega, by go_num, out_row HO.out hlt HNk.out HB2.out HG2.out⟩
        case measure => simp [intOf]; omega
    · go_wp2
      go_ret
      obtain rfl : k = n := by omega
      exact ⟨rfl, out_rows hO, hO.1⟩
end Go.Proofs.Ybulkefbu.B
