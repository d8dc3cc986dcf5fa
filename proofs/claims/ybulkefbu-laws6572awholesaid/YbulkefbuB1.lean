/- LawS6572BPart: rows of strings in memory; the small callees. -/
import Derived.Test.YbulkefbuRows
import Derived.WalkKit
import Derived.Handy
import Derived.Deep.Light
import Derived.Deep.QuietTactic
import Derived.BigQuiet
import Derived.WalkSpells
import Derived.WalkLawsBesides
import Derived.Lib.Builder
namespace Go.Proofs.Ybulkefbu.B
open Go.RowKit
set_option linter.unusedVariables false

theorem Hid.mk {p : Prop} (h : p) : Hid p := h
theorem ret_int {k : IntKind} {a b : Int} (h : a = b) : Ending.returned (.int k a) = .returned (.int k b) := by rw [h]

theorem eqnil22 (w : World) (a : Option Addr) (n c : Nat) : (binOp .eql 22 (.slice a n c) (.slice none 0 0)).run Yba.prog w = .ok (.bool a.isNone) w :=
  Lib.run_eql_slice_nil w 22 9 a n c 0 0 Yba.underlying22
theorem neqnil22 (w : World) (a : Option Addr) (n c : Nat) : (binOp .neq 22 (.slice a n c) (.slice none 0 0)).run Yba.prog w = .ok (.bool (!a.isNone)) w :=
  run_neq_slice_nil_any w 22 9 a n c 0 0 Yba.underlying22
theorem eqnil25 (w : World) (a : Option Addr) (n c : Nat) : (binOp .eql 25 (.slice a n c) (.slice none 0 0)).run Yba.prog w = .ok (.bool a.isNone) w :=
  Lib.run_eql_slice_nil w 25 22 a n c 0 0 Yba.underlying25
theorem eqnil33 (w : World) (a : Option Addr) (n c : Nat) : (binOp .eql 33 (.slice a n c) (.slice none 0 0)).run Yba.prog w = .ok (.bool a.isNone) w :=
  Lib.run_eql_slice_nil w 33 3 a n c 0 0 Yba.underlying33

/-- The strings ss lie at p. -/
def Row (w : World) (p : Option Addr) (ss : List ByteArray) : Prop :=
  0 < ss.length → ∃ b o, p = some ⟨b, o, none⟩ ∧ ∀ j, j < ss.length → w.cell? ⟨b, o + j, none⟩ = some (.string (ss.getD j ByteArray.empty))

/-- n rows R lie at p; N: which of them are nil. -/
def Rows2 (w : World) (p : Option Addr) (n : Nat) (N : Nat → Bool) (R : Nat → List ByteArray) : Prop :=
  0 < n → ∃ b o, p = some ⟨b, o, none⟩ ∧ ∀ i, i < n → ∃ q c, w.cell? ⟨b, o + i, none⟩ = some (.slice q (R i).length c) ∧ q.isNone = N i ∧ Row w q (R i)

theorem cell_keep {w w' : World} (hb : Below w.heap.size w w') {p : Addr} {v : Value} (h : w.cell? p = some v) : w'.cell? p = some v := by
  rw [hb.cell (World.block_lt_of_cell? w p h), h]

theorem Row.keep {w w' : World} {p : Option Addr} {ss : List ByteArray} (h : Row w p ss) (hb : Below w.heap.size w w') : Row w' p ss := fun h0 => by
  obtain ⟨b, o, e, hc⟩ := h h0
  exact ⟨b, o, e, fun j hj => cell_keep hb (hc j hj)⟩

theorem Row.drewN {w : World} {p : Option Addr} {ss : List ByteArray} (h : Row w p ss) (k : Nat) : Row (w.drewN k) p ss := h

theorem Rows2.keep {w w' : World} {p : Option Addr} {n : Nat} {N : Nat → Bool} {R : Nat → List ByteArray} (h : Rows2 w p n N R) (hb : Below w.heap.size w w') : Rows2 w' p n N R := fun h0 => by
  obtain ⟨b, o, e, hc⟩ := h h0
  refine ⟨b, o, e, fun i hi => ?_⟩
  obtain ⟨q, c, h1, h2, h3⟩ := hc i hi
  exact ⟨q, c, cell_keep hb h1, h2, h3.keep hb⟩

/-- The hash of a string's bytes, from h on, as the Go text reckons it. -/
def hashBytes (h : Int) : List UInt8 → Int
  | [] => h
  | b :: r => hashBytes (wrap64 (wrap64 (h * 131) + (b.toNat : Int))) r
/-- .. of the strings of a row. -/
def hashRow (h : Int) : List ByteArray → Int
  | [] => h
  | s :: r => hashRow (hashBytes (wrap64 (wrap64 (h * 31) + (s.size : Int))) s.data.toList) r
def val (ss : List ByteArray) : Int := hashRow ss.length ss

theorem wb (x : UInt8) : wrap64 (x.toNat : Int) = x.toNat := by
  have := x.toNat_lt
  unfold wrap64; omega
theorem take_snoc (s : ByteArray) (k : Nat) (h : k < s.size) : s.data.toList.take (k + 1) = s.data.toList.take k ++ [s[k]] := by
  rw [List.take_succ_eq_append_getElem (by simpa using h)]; rfl
theorem hashBytes_snoc (h : Int) (l : List UInt8) (b : UInt8) : hashBytes h (l ++ [b]) = wrap64 (wrap64 (hashBytes h l * 131) + (b.toNat : Int)) := by
  induction l generalizing h with
  | nil => rfl
  | cons x l ih => exact ih _
theorem hashRow_snoc (h : Int) (l : List ByteArray) (s : ByteArray) : hashRow h (l ++ [s]) = hashBytes (wrap64 (wrap64 (hashRow h l * 31) + (s.size : Int))) s.data.toList := by
  induction l generalizing h with
  | nil => rfl
  | cons x l ih => exact ih _

set_option maxHeartbeats 1000000 in
theorem val_any (p : Option Addr) (ss : List ByteArray) (c : Nat) (w : World) (h : Row w p ss) (hl : ss.length ≤ 140737488355328) (hss : ∀ s ∈ ss, s.size ≤ maxLen) :
    Calls Yba.prog 11 #[.slice p ss.length c] w fun e w' => e = .returned (.int .i64 (val ss)) ∧ w' = w := by
  have H := Hid.mk h
  have HS := Hid.mk hss
  clear h hss
  go_enter Yba.func11, Yba.ntmps11
  go_wp2
  go_loop [3, 11] (fun t i => ∃ k : Nat, k ≤ ss.length ∧ i = .int .i64 k ∧ t = .int .i64 (hashRow ss.length (ss.take k))) (fun _ i => ss.length - (intOf i).toNat)
  case atStart => exact ⟨0, Nat.zero_le _, rfl, rfl⟩
  case round =>
    obtain ⟨k, hk, rfl, rfl⟩ := hrel
    by_cases hlt : k < ss.length
    · obtain ⟨b, o, rfl, hc⟩ := H.out (by omega)
      have c1 := hc k hlt
      have hkI : (k : Int) < (ss.length : Int) := by omega
      have hsz : (ss.getD k ByteArray.empty).size ≤ maxLen := HS.out _ (by simp [List.getD, hlt])
      unfold maxLen at hsz
      have HN : Hid (hashRow ss.length (ss.take (k + 1)) = hashBytes (wrap64 (wrap64 (hashRow ss.length (ss.take k) * 31) + ((ss.getD k ByteArray.empty).size : Int))) (ss.getD k ByteArray.empty).data.toList) := by
        have e : ss.take (k + 1) = ss.take k ++ [ss.getD k ByteArray.empty] := by
          rw [List.take_succ_eq_append_getElem hlt]; simp [List.getD, hlt]
        unfold Hid; rw [e, hashRow_snoc]
      generalize hashRow ss.length (ss.take k) = h0 at *
      generalize ss.getD k ByteArray.empty = s at *
      clear hc
      go_wp2
      generalize wrap64 (wrap64 (h0 * 31) + (s.size : Int)) = h1 at *
      go_loop [3, 6] (fun t i => ∃ j : Nat, j ≤ s.size ∧ i = .int .i64 j ∧ t = .int .i64 (hashBytes h1 (s.data.toList.take j))) (fun _ i => s.size - (intOf i).toNat)
      case atStart => exact ⟨0, Nat.zero_le _, rfl, rfl⟩
      case round =>
        obtain ⟨j, hj, rfl, rfl⟩ := hrel
        by_cases hjl : j < s.size
        · have HJ : Hid (hashBytes h1 (s.data.toList.take (j + 1)) = wrap64 (wrap64 (hashBytes h1 (s.data.toList.take j) * 131) + (s[j].toNat : Int))) := by
            unfold Hid; rw [take_snoc s j hjl, hashBytes_snoc]
          generalize hashBytes h1 (s.data.toList.take j) = h2 at *
          go_wp2
          go_round
          case rel => exact ⟨j + 1, by omega, by go_num, by rw [HJ.out, wb]⟩
          case measure => simp [intOf]; omega
        · go_wp2
          go_round
          case rel => exact ⟨k + 1, by omega, by go_num, by rw [HN.out, List.take_of_length_le (by simp; omega)]⟩
          case measure => simp [intOf]; omega
    · go_wp2
      go_ret
      exact ⟨ret_int (by unfold val; rw [List.take_of_length_le (by omega)]), rfl⟩

set_option maxHeartbeats 1000000 in
theorem eqrow_any (p q : Option Addr) (ss : List ByteArray) (c d : Nat) (w : World) (h : Row w p ss) (h' : Row w q ss) (hpq : p.isNone = q.isNone) (hl : ss.length ≤ 140737488355328) :
    Calls Yba.prog 12 #[.slice p ss.length c, .slice q ss.length d] w fun e w' => e = .returned (.bool true) ∧ ∃ k, w' = w.drewN k := by
  have e1 := eqnil22
  have H := Hid.mk h
  have H' := Hid.mk h'
  clear h h'
  go_enter Yba.func12, Yba.ntmps12
  go_wp2
  go_loopw [20] (fun i wr => ∃ k m : Nat, k ≤ ss.length ∧ i = .int .i64 k ∧ wr = w.drewN m) (fun i _ => ss.length - (intOf i).toNat)
  case atStart => exact ⟨0, 0, Nat.zero_le _, rfl, rfl⟩
  case round =>
    obtain ⟨k, m, hk, rfl, rfl⟩ := hrel
    by_cases hlt : k < ss.length
    · obtain ⟨b, o, rfl, hc⟩ := H.out (by omega)
      obtain ⟨b', o', rfl, hc'⟩ := H'.out (by omega)
      have c1 := hc k hlt
      have c2 := hc' k hlt
      have hkI : (k : Int) < (ss.length : Int) := by omega
      generalize ss.getD k ByteArray.empty = s at *
      clear hc hc'
      go_wp2
      go_quiet (fail)
      go_wp2
      go_roundw
      case rel => exact ⟨k + 1, _, by omega, by go_num, rfl⟩
      case measure => simp [intOf]; omega
    · go_wp2
      go_ret
      exact ⟨rfl, _, rfl⟩

set_option maxHeartbeats 1000000 in
theorem eq_any (p q : Option Addr) (n : Nat) (N : Nat → Bool) (R : Nat → List ByteArray) (c d : Nat) (w : World) (h : Rows2 w p n N R) (h' : Rows2 w q n N R) (hpq : p.isNone = q.isNone) (hl : n ≤ 140737488355328) (hr : ∀ i, i < n → (R i).length ≤ 140737488355328) :
    Calls Yba.prog 13 #[.slice p n c, .slice q n d] w fun e w' => e = .returned (.bool true) ∧ ∃ k, w' = w.drewN k := by
  have e1 := eqnil25
  have H := Hid.mk h
  have H' := Hid.mk h'
  have HR := Hid.mk hr
  clear h h' hr
  go_enter Yba.func13, Yba.ntmps13
  go_wp2
  go_loopw [20] (fun i wr => ∃ k : Nat, k ≤ n ∧ i = .int .i64 k ∧ ∃ m, wr = w.drewN m) (fun i _ => n - (intOf i).toNat)
  case atStart => exact ⟨0, Nat.zero_le _, rfl, 0, rfl⟩
  case round =>
    obtain ⟨k, hk, rfl, hw⟩ := hrel
    have HW := Hid.mk hw
    clear hw
    by_cases hlt : k < n
    · obtain ⟨b, o, rfl, hc⟩ := H.out (by omega)
      obtain ⟨b', o', rfl, hc'⟩ := H'.out (by omega)
      obtain ⟨q1, d1, c1', n1, r1⟩ := hc k hlt
      obtain ⟨q2, d2, c2', n2, r2⟩ := hc' k hlt
      obtain ⟨m, hm⟩ := HW.out
      have c1 : wr.cell? ⟨b, o + k, none⟩ = some (.slice q1 (R k).length d1) := by rw [hm]; exact c1'
      have c2 : wr.cell? ⟨b', o' + k, none⟩ = some (.slice q2 (R k).length d2) := by rw [hm]; exact c2'
      have r1' : Row wr q1 (R k) := by rw [hm]; exact r1
      have r2' : Row wr q2 (R k) := by rw [hm]; exact r2
      have hkI : (k : Int) < (n : Int) := by omega
      have HC := Hid.mk r1'
      have HC' := Hid.mk r2'
      have HNN : Hid (q1.isNone = q2.isNone) := by unfold Hid; rw [n1, n2]
      have hrk := HR.out k hlt
      generalize R k = ss at *
      clear hc hc' n1 n2 r1 r2 r1' r2' c1' c2' hm
      go_wp2
      go_quiet ((go_at_call 12; exact Calls.quiet_of (eqrow_any q1 q2 ss d1 d2 _ (HC.out.drewN _) (HC'.out.drewN _) HNN.out hrk)))
      go_wp2
      go_roundw
      case rel => obtain ⟨m, hm⟩ := HW.out; exact ⟨k + 1, by omega, by go_num, _, by rw [hm, World.drewN_drewN]⟩
      case measure => simp [intOf]; omega
    · go_wp2
      go_ret
      exact ⟨rfl, HW.out⟩
end Go.Proofs.Ybulkefbu.B
