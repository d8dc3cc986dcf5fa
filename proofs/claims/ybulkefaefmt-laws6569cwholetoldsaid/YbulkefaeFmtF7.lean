/- LawS6569CWhole: the decoder's methods. -/
import Derived.Test.YbulkefaeFmtF6
import Derived.Test.YbulkefaeFmtShelf
import Derived.Stop.IfaceNil
namespace Go.Proofs.YbulkefaeFmt
open Go.RowKit
set_option linter.unusedVariables false

/-- The decoder in block D. -/
def Dec (w : World) (D : Nat) (vb ve : Value) : Prop := w.heap[D]? = some (.cells #[vb, ve] 50 (0, 0))
theorem Dec.c0 {w : World} {D : Nat} {vb ve : Value} (h : Dec w D vb ve) : w.cell? ⟨D, 0, none⟩ = some vb := by
  unfold Dec at h; unfold World.cell?; simp only [h]; rfl
theorem Dec.c1 {w : World} {D : Nat} {vb ve : Value} (h : Dec w D vb ve) : w.cell? ⟨D, 1, none⟩ = some ve := by
  unfold Dec at h; unfold World.cell?; simp only [h]; rfl
theorem Dec.f0 {w : World} {D : Nat} {vb ve : Value} (h : Dec w D vb ve) : w.frozen? ⟨D, 0, none⟩ = false := by
  unfold Dec at h; simp [World.frozen?, h]
theorem Dec.f1 {w : World} {D : Nat} {vb ve : Value} (h : Dec w D vb ve) : w.frozen? ⟨D, 1, none⟩ = false := by
  unfold Dec at h; simp [World.frozen?, h]
theorem Dec.lt {w : World} {D : Nat} {vb ve : Value} (h : Dec w D vb ve) : D < w.heap.size := (Array.getElem?_eq_some_iff.1 h).1

/-- Only the decoder has turned. -/
def Moved (w w' : World) (D : Nat) (vb ve : Value) : Prop := Dec w' D vb ve ∧ w.grownBy w' (some D)
theorem moved_0 {w : World} {D : Nat} {vb ve : Value} (h : Dec w D vb ve) (u : Value) : Moved w (w.setCell ⟨D, 0, none⟩ u) D u ve := by
  refine ⟨?_, rfl, rfl, rfl, by simp [World.setCell], fun k _ hk => Below.heap_setCell _ _ _ _ (fun e => hk (by rw [e]))⟩
  unfold Dec at h ⊢
  simp [World.setCell, Array.getElem?_modify, h]
theorem moved_1 {w : World} {D : Nat} {vb ve : Value} (h : Dec w D vb ve) (u : Value) : Moved w (w.setCell ⟨D, 1, none⟩ u) D vb u := by
  refine ⟨?_, rfl, rfl, rfl, by simp [World.setCell], fun k _ hk => Below.heap_setCell _ _ _ _ (fun e => hk (by rw [e]))⟩
  unfold Dec at h ⊢
  simp [World.setCell, Array.getElem?_modify, h]
theorem moved_same {w : World} {D : Nat} {vb ve : Value} (h : Dec w D vb ve) : Moved w w D vb ve := ⟨h, rfl, rfl, rfl, Nat.le_refl _, fun _ _ _ => rfl⟩
theorem grown_trans {w w1 w2 : World} {D : Nat} (h : w.grownBy w1 (some D)) (k : w1.grownBy w2 (some D)) : w.grownBy w2 (some D) :=
  ⟨k.os.trans h.os, k.tape.trans h.tape, k.output.trans h.output, Nat.le_trans h.size k.size, fun i hi hne => (k.block i (Nat.lt_of_lt_of_le hi h.size) hne).trans (h.block i hi hne)⟩
theorem grown_cell {w w' : World} {D : Nat} (h : w.grownBy w' (some D)) {a : Addr} {v : Value} (hc : w.cell? a = some v) (hne : a.block ≠ D) : w'.cell? a = some v := h.cell hc (by simpa using hne)
theorem grown_bytes {w w' : World} {D : Nat} (h : w.grownBy w' (some D)) {p : Option Addr} {l : List UInt8} (hb : Bytes w p l) (hne : 0 < l.length → ∀ a, p = some a → a.block ≠ D) : Bytes w' p l := fun h0 => by
  obtain ⟨b, o, e, hc⟩ := hb h0
  exact ⟨b, o, e, fun j hj => grown_cell h (hc j hj) (show b ≠ D from hne h0 _ e)⟩

theorem err_any (D : Nat) (vb ve : Value) (w : World) (h : Dec w D vb ve) (hi : ve = .nilIface ∨ ∃ k, ve = .iface 87 (.pointer (some k))) : Calls Ybaf.prog 12 #[.pointer (some ⟨D, 0, none⟩)] w fun e w' => e = .returned ve ∧ w' = w := by
  have c1 := h.c1
  rcases hi with rfl | ⟨k, rfl⟩
  · go_enter Ybaf.func12, Ybaf.ntmps12
    go_wp2
    go_ret
    exact ⟨rfl, rfl⟩
  · go_enter Ybaf.func12, Ybaf.ntmps12
    go_wp2
    go_ret
    exact ⟨rfl, rfl⟩

theorem fail_any (D : Nat) (vb : Value) (k : Addr) (w : World) (h : Dec w D vb .nilIface) : Calls Ybaf.prog 35 #[.pointer (some ⟨D, 0, none⟩), .iface 87 (.pointer (some k))] w fun e w' => e = .returned (.tuple #[]) ∧ Moved w w' D vb (.iface 87 (.pointer (some k))) := by
  have c1 := h.c1
  have f1 := h.f1
  have HM := Hid.mk (moved_1 h (.iface 87 (.pointer (some k))))
  clear h
  go_enter Ybaf.func35, Ybaf.ntmps35
  go_wp2
  go_end0
  exact ⟨rfl, HM.out⟩

theorem new_any (p : Option Addr) (n c : Nat) (w : World) : Calls Ybaf.prog 9 #[.slice p n c] w fun e w' => e = .returned (.pointer (some ⟨w.heap.size, 0, none⟩)) ∧ Dec w' w.heap.size (.slice p n c) .nilIface ∧ Below w.heap.size w w' := by
  go_enter Ybaf.func9, Ybaf.ntmps9
  go_wp2
  go_ret
  exact ⟨rfl, heap_alloc_new w _, (Below.refl _ _).alloc (Nat.le_refl _) _⟩

/-- The sentinel of a status. -/
def eOf (a1 a2 : Addr) (st : Nat) : Value := if st = 1 then .iface 87 (.pointer (some a1)) else .iface 87 (.pointer (some a2))

/-- The sentinels lie in their variables. -/
def Sent (w : World) (a1 a2 : Addr) : Prop := w.cell? ⟨0, 0, none⟩ = some (.iface 87 (.pointer (some a1))) ∧ w.cell? ⟨2, 0, none⟩ = some (.iface 87 (.pointer (some a2)))

theorem uv_any (p : Option Addr) (l : List UInt8) (c : Nat) (w : World) (h : Bytes w p l) : Calls Ybaf.prog 48 #[.slice p l.length c] w fun e w' => e = .returned (.tuple #[.int .u64 (Lib.uvarintDec l).1, .int .i64 (Lib.uvarintDec l).2]) ∧ w' = w := by
  by_cases h0 : 0 < l.length
  · obtain ⟨b, o, rfl, hc⟩ := h h0
    exact Ybaf.binary_Uvarint b o l.length c l w rfl hc
  · obtain rfl : l = [] := List.eq_nil_of_length_eq_zero (by omega)
    exact Ybaf.binary_Uvarint_empty p c w

set_option maxHeartbeats 1000000 in
theorem skip_ok (D : Nat) (p : Option Addr) (n c k : Nat) (w : World) (h : Dec w D (.slice p n c) .nilIface) (hk : 0 < k) (hkn : k ≤ n) (hnc : n ≤ c) (hc : c ≤ 9223372036854775807) :
    Calls Ybaf.prog 49 #[.pointer (some ⟨D, 0, none⟩), .int .i64 k] w fun e w' => e = .returned (.tuple #[]) ∧ Moved w w' D (.slice (qFrom p c k) (n - k) (c - k)) .nilIface := by
  have c0 := h.c0
  have f0 := h.f0
  have hs := fun w => slice_from w p n c k hkn hnc hc .i64
  have HM := Hid.mk (moved_0 h (.slice (qFrom p c k) (n - k) (c - k)))
  have h1 : ((k : Int) == 0) = false := by rw [beq_eq_false_iff_ne]; omega
  have h2 : decide ((k : Int) < 0) = false := by simp
  clear h
  go_enter Ybaf.func49, Ybaf.ntmps49
  go_wp2
  go_end0
  exact ⟨rfl, HM.out⟩

set_option maxHeartbeats 1000000 in
theorem skip_bad (D : Nat) (vb : Value) (n : Int) (st : Nat) (a1 a2 : Addr) (w : World) (h : Dec w D vb .nilIface) (hs : Sent w a1 a2) (hn : (n = 0 ∧ st = 1) ∨ (n < 0 ∧ st = 2)) :
    Calls Ybaf.prog 49 #[.pointer (some ⟨D, 0, none⟩), .int .i64 n] w fun e w' => e = .returned (.tuple #[]) ∧ Moved w w' D vb (eOf a1 a2 st) := by
  have c0 := h.c1
  have f1 := h.f1
  obtain ⟨g1, g2⟩ := hs
  rcases hn with ⟨rfl, rfl⟩ | ⟨hn, rfl⟩
  · have HM := Hid.mk (moved_1 h (.iface 87 (.pointer (some a1))))
    clear h
    go_enter Ybaf.func49, Ybaf.ntmps49
    go_wp2
    go_end0
    exact ⟨rfl, HM.out⟩
  · have HM := Hid.mk (moved_1 h (.iface 87 (.pointer (some a2))))
    have h1 : (n == 0) = false := by rw [beq_eq_false_iff_ne]; omega
    clear h
    go_enter Ybaf.func49, Ybaf.ntmps49
    go_wp2
    go_end0
    exact ⟨rfl, HM.out⟩

theorem dec_ok {l : List UInt8} {v k : Nat} (h : rd l = (v, k, 0)) : Lib.uvarintDec l = (v, (k : Int)) ∧ 0 < k := by
  unfold rd at h
  split at h
  · simp only [Prod.mk.injEq, and_true] at h
    obtain ⟨h1, h2⟩ := h
    exact ⟨Prod.ext h1 (by show (Lib.uvarintDec l).2 = k; omega), by omega⟩
  · split at h <;> simp at h
theorem val_zero : ∀ (l : List UInt8) (i acc : Nat), (Lib.uvarintFrom i acc l).2 ≤ 0 → (Lib.uvarintFrom i acc l).1 = 0
  | [], i, acc => fun _ => rfl
  | b :: r, i, acc => fun h => by
    unfold Lib.uvarintFrom at h ⊢
    have ih := val_zero r (i + 1) (acc + b.toNat % 128 * 2 ^ (7 * i))
    split
    · rfl
    · rename_i h1
      rw [if_neg h1] at h
      split
      · rename_i h2
        rw [if_pos h2] at h
        split
        · rfl
        · rename_i h3
          rw [if_neg h3] at h
          exfalso
          have : (i : Int) + 1 ≤ 0 := h
          omega
      · rename_i h2
        rw [if_neg h2] at h
        exact ih h
theorem dec_bad {l : List UInt8} {v k st : Nat} (h : rd l = (v, k, st)) (h0 : st ≠ 0) : (Lib.uvarintDec l).1 = 0 ∧ (((Lib.uvarintDec l).2 = 0 ∧ st = 1) ∨ ((Lib.uvarintDec l).2 < 0 ∧ st = 2)) := by
  unfold rd at h
  split at h
  · simp only [Prod.mk.injEq] at h
    exact absurd h.2.2.symm h0
  · rename_i h1
    refine ⟨val_zero l 0 0 (by unfold Lib.uvarintDec at h1; omega), ?_⟩
    split at h
    · simp only [Prod.mk.injEq] at h
      exact Or.inl ⟨by assumption, h.2.2.symm⟩
    · simp only [Prod.mk.injEq] at h
      exact Or.inr ⟨by omega, h.2.2.symm⟩

set_option maxHeartbeats 1000000 in
theorem uvarint_ok {l : List UInt8} {v k : Nat} (hr : rd l = (v, k, 0)) (D : Nat) (p : Option Addr) (c : Nat) (w : World) (h : Dec w D (.slice p l.length c) .nilIface) (hb : Bytes w p l) (hc : l.length ≤ c) (hcc : c ≤ 9223372036854775807) :
    Calls Ybaf.prog 43 #[.pointer (some ⟨D, 0, none⟩)] w fun e w' => e = .returned (.int .u64 v) ∧ Moved w w' D (.slice (qFrom p c k) (l.length - k) (c - k)) .nilIface := by
  have hu := uv_any p l c w hb
  obtain ⟨hd, hk⟩ := dec_ok hr
  rw [hd] at hu
  have hle : k ≤ l.length := by have := rd_used l; rw [hr] at this; exact this
  have c0 := h.c0
  have c1 := h.c1
  have HS := Hid.mk (skip_ok D p l.length c k w h hk hle hc hcc)
  have HU := Hid.mk hu
  clear hu hb hd h
  go_enter Ybaf.func43, Ybaf.ntmps43
  go_wp2_with (first | (go_at_call 48; refine HU.out.mono ?_; rintro e w2 ⟨rfl, hw2⟩; have hw3 := hw2.symm; clear hw2; subst hw3) | (go_at_call 49; refine HS.out.mono ?_; rintro e w2 ⟨rfl, hM⟩))
  go_ret
  exact ⟨rfl, hM⟩

set_option maxHeartbeats 1000000 in
theorem uvarint_bad {l : List UInt8} {v k st : Nat} (hr : rd l = (v, k, st)) (h0 : st ≠ 0) (D : Nat) (p : Option Addr) (c : Nat) (a1 a2 : Addr) (w : World) (h : Dec w D (.slice p l.length c) .nilIface) (hb : Bytes w p l) (hs : Sent w a1 a2) :
    Calls Ybaf.prog 43 #[.pointer (some ⟨D, 0, none⟩)] w fun e w' => e = .returned (.int .u64 0) ∧ Moved w w' D (.slice p l.length c) (eOf a1 a2 st) := by
  have hu := uv_any p l c w hb
  obtain ⟨hd, hk⟩ := dec_bad hr h0
  rw [hd] at hu
  have c0 := h.c0
  have c1 := h.c1
  have HS := Hid.mk (skip_bad D _ _ st a1 a2 w h hs hk)
  have HU := Hid.mk hu
  generalize (Lib.uvarintDec l).2 = q at *
  clear hu hb hd h hs hk
  go_enter Ybaf.func43, Ybaf.ntmps43
  go_wp2_with (first | (go_at_call 48; refine HU.out.mono ?_; rintro e w2 ⟨rfl, hw2⟩; have hw3 := hw2.symm; clear hw2; subst hw3) | (go_at_call 49; refine HS.out.mono ?_; rintro e w2 ⟨rfl, hM⟩))
  go_ret
  exact ⟨rfl, hM⟩

set_option maxHeartbeats 1000000 in
theorem bytes_ok (D : Nat) (p : Option Addr) (n c k : Nat) (w : World) (h : Dec w D (.slice p n c) .nilIface) (hk : k ≤ n) (hnc : n ≤ c) (hc : c ≤ 9223372036854775807) :
    Calls Ybaf.prog 13 #[.pointer (some ⟨D, 0, none⟩), .int .u64 k] w fun e w' => e = .returned (.slice p k k) ∧ Moved w w' D (.slice (qFrom p c k) (n - k) (c - k)) .nilIface := by
  have c0 := h.c0
  have c1 := h.c1
  have f0 := h.f0
  have hs := fun w => slice_from w p n c k hk hnc hc .u64
  have hs3 := fun w => slice_to3 w p n c k hk hnc hc .u64
  have HM := Hid.mk (moved_0 h (.slice (qFrom p c k) (n - k) (c - k)))
  have hd : decide ((n : Int) < (k : Int)) = false := by simp; omega
  clear h
  go_enter Ybaf.func13, Ybaf.ntmps13
  go_wp2
  go_ret
  exact ⟨rfl, HM.out⟩

set_option maxHeartbeats 1000000 in
theorem bytes_short (D : Nat) (p : Option Addr) (n c k : Nat) (a1 a2 : Addr) (w : World) (h : Dec w D (.slice p n c) .nilIface) (hs : Sent w a1 a2) (hk : n < k) (hkb : k < 18446744073709551616) (hnc : n ≤ c) (hc : c ≤ 9223372036854775807) :
    Calls Ybaf.prog 13 #[.pointer (some ⟨D, 0, none⟩), .int .u64 k] w fun e w' => e = .returned (.slice none 0 0) ∧ Moved w w' D (.slice p n c) (eOf a1 a2 1) := by
  have c0 := h.c0
  have c1 := h.c1
  have f0 := h.f1
  have g1 := hs.1
  have HM := Hid.mk (moved_1 h (.iface 87 (.pointer (some a1))))
  have hd : decide ((n : Int) < (k : Int)) = true := by simp; omega
  clear h hs
  go_enter Ybaf.func13, Ybaf.ntmps13
  go_wp2
  go_ret
  exact ⟨rfl, HM.out⟩

theorem bytes_stopped (D : Nat) (vb : Value) (k : Addr) (n : Int) (w : World) (h : Dec w D vb (.iface 87 (.pointer (some k)))) :
    Calls Ybaf.prog 13 #[.pointer (some ⟨D, 0, none⟩), .int .u64 n] w fun e w' => e = .returned (.slice none 0 0) ∧ w' = w := by
  have c1 := h.c1
  clear h
  go_enter Ybaf.func13, Ybaf.ntmps13
  go_wp2
  go_ret
  exact ⟨rfl, rfl⟩
end Go.Proofs.YbulkefaeFmt
