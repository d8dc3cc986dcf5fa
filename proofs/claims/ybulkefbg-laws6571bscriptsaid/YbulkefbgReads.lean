/- The field reader's reads: contracts. -/
import Derived.Test.YbulkefbgWalks
namespace Go.Proofs.Ybulkefbg.Rd
open Go.RowKit
set_option linter.unusedVariables false

theorem neqnil (w : World) (a : Option Addr) (n c : Nat) : (binOp .neq 22 (.slice a n c) (.slice none 0 0)).run Yba.prog w = .ok (.bool (!a.isNone)) w :=
  run_neq_slice_nil_any w 22 5 a n c 0 0 Yba.underlying22

/-- The reader lies in block g. -/
def At (w : World) (g : Nat) (v : Value) (base i fa : Int) (st : Bool) : Prop :=
  w.heap[g]? = some (.cells #[v, .int .u64 base, .int .i64 i, .int .u64 fa, .bool st] 27 (0, 0))

theorem At.cells {w : World} {g : Nat} {v : Value} {base i fa : Int} {st : Bool} (h : At w g v base i fa st) :
    w.cell? ⟨g, 0, none⟩ = some v ∧ w.cell? ⟨g, 1, none⟩ = some (.int .u64 base) ∧ w.cell? ⟨g, 2, none⟩ = some (.int .i64 i) ∧ w.cell? ⟨g, 3, none⟩ = some (.int .u64 fa) ∧ w.cell? ⟨g, 4, none⟩ = some (.bool st) ∧ ∀ o, w.frozen? ⟨g, o, none⟩ = false := by
  unfold At at h
  refine ⟨?_, ?_, ?_, ?_, ?_, fun o => ?_⟩ <;> simp [World.cell?, World.frozen?, h]

set_option maxHeartbeats 400000 in
theorem left_any (g : Nat) (a : Option Addr) (n c : Nat) (base i fa : Int) (st : Bool) (w : World) (h : At w g (.slice a n c) base i fa st) (hn : n ≤ 1048576) (h0 : 0 ≤ i) (h1 : i ≤ n) :
    Calls Yba.prog 15 #[.pointer (some ⟨g, 0, none⟩)] w fun e w' => e = .returned (.int .u64 (n - i)) ∧ ∃ k, w' = w.drewN k := by
  obtain ⟨c0, c1, c2, c3, c4, fz⟩ := h.cells
  clear h
  go_enter Yba.func15, Yba.ntmps15
  go_wp2
  go_quiet (fail)
  go_wp2
  go_ret
  exact ⟨rfl, _, rfl⟩

theorem failed_any (g : Nat) (v : Value) (base i fa : Int) (st : Bool) (w : World) (h : At w g v base i fa st) :
    Calls Yba.prog 12 #[.pointer (some ⟨g, 0, none⟩)] w fun e w' => e = .returned (.bool st) ∧ w' = w := by
  obtain ⟨c0, c1, c2, c3, c4, fz⟩ := h.cells
  clear h
  go_enter Yba.func12, Yba.ntmps12
  go_wp2
  go_ret
  exact ⟨rfl, rfl⟩

theorem At.drewN {w : World} {g : Nat} {v : Value} {base i fa : Int} {st : Bool} (h : At w g v base i fa st) (k : Nat) : At (w.drewN k) g v base i fa st := h

theorem At.set2 {w : World} {g : Nat} {v : Value} {base i fa : Int} {st : Bool} (h : At w g v base i fa st) (i' : Int) : At (w.setCell ⟨g, 2, none⟩ (.int .i64 i')) g v base i' fa st := by
  unfold At at *
  simp [World.setCell, Array.getElem?_modify, h]

theorem At.stopped {w : World} {g : Nat} {v : Value} {base i fa : Int} {st : Bool} (h : At w g v base i fa st) (fa' : Int) : At ((w.setCell ⟨g, 4, none⟩ (.bool true)).setCell ⟨g, 3, none⟩ (.int .u64 fa')) g v base i fa' true := by
  unfold At at *
  simp [World.setCell, Array.getElem?_modify, h]

theorem grown_set {a w : World} {g : Nat} (h : a.grownBy w (some g)) (o : Nat) (v : Value) : a.grownBy (w.setCell ⟨g, o, none⟩ v) (some g) :=
  ⟨h.os, h.tape, h.output, by simpa [World.setCell] using h.size, fun k hk hne => by
    rw [Below.heap_setCell _ _ _ _ (fun e => hne (by simpa using congrArg some e))]; exact h.block k hk hne⟩
theorem grown_drewN {a w : World} {g : Option Nat} (h : a.grownBy w g) (n : Nat) : a.grownBy (w.drewN n) g := ⟨h.os, h.tape, h.output, h.size, h.block⟩
theorem grown_refl (a : World) (g : Option Nat) : a.grownBy a g := ⟨rfl, rfl, rfl, Nat.le_refl _, fun _ _ _ => rfl⟩
theorem grown_below {a w w' : World} {g : Option Nat} (h : a.grownBy w g) (hb : Below w.heap.size w w') : a.grownBy w' g :=
  ⟨hb.os.trans h.os, hb.tape.trans h.tape, hb.output.trans h.output, Nat.le_trans h.size hb.size, fun k hk hne => (hb.block k (Nat.lt_of_lt_of_le hk h.size)).trans (h.block k hk hne)⟩
theorem At.below {w w' : World} {g : Nat} {v : Value} {base i fa : Int} {st : Bool} (h : At w g v base i fa st) (hb : Below w.heap.size w w') : At w' g v base i fa st := by
  unfold At at *
  rw [hb.block g (by obtain ⟨h, _⟩ := Array.getElem?_eq_some_iff.1 h; exact h), h]

theorem ret_slice {a : Option Addr} {n n' c : Nat} (h : n = n') : Ending.returned (.slice a n c) = .returned (.slice a n' c) := by rw [h]

/-- bytes, on a reader that had stopped. -/
theorem bytes_old (g : Nat) (a : Option Addr) (n c : Nat) (base i fa m : Int) (w : World) (h : At w g (.slice a n c) base i fa true) :
    Calls Yba.prog 11 #[.pointer (some ⟨g, 0, none⟩), .int .u64 m] w fun e w' => e = .returned (.slice none 0 0) ∧ At w' g (.slice a n c) base i fa true ∧ w.grownBy w' (some g) := by
  have H : Hid (At w g (.slice a n c) base i fa true) := h
  obtain ⟨c0, c1, c2, c3, c4, fz⟩ := h.cells
  clear h
  go_enter Yba.func11, Yba.ntmps11
  go_wp2_with (first | (go_at_call 6; refine (stop_old g _ c4).mono ?_; rintro e w' ⟨rfl, rfl⟩))
  go_ret
  exact ⟨rfl, H.out, grown_refl _ _⟩

set_option maxHeartbeats 400000 in
/-- bytes, past the end: the reader stops. -/
theorem bytes_stop (g : Nat) (a : Option Addr) (n c : Nat) (base i fa m : Int) (w : World) (h : At w g (.slice a n c) base i fa false) (hn : n ≤ 1048576) (h0 : 0 ≤ i) (h1 : i ≤ n) (hm : n - i < m) :
    Calls Yba.prog 11 #[.pointer (some ⟨g, 0, none⟩), .int .u64 m] w fun e w' => e = .returned (.slice none 0 0) ∧ At w' g (.slice a n c) base i (IntKind.u64.wrap (base + IntKind.u64.wrap i)) true ∧ w.grownBy w' (some g) := by
  have H : Hid (At w g (.slice a n c) base i fa false) := h
  obtain ⟨c0, c1, c2, c3, c4, fz⟩ := h.cells
  clear h
  go_enter Yba.func11, Yba.ntmps11
  go_wp2_with (first | (go_at_call 15; refine (left_any g a n c base i fa false _ (by exact H.out) hn h0 h1).mono ?_; rintro e w' ⟨rfl, k, rfl⟩) | (go_at_call 6; refine (stop_new g base i fa _ (by exact c1) (by exact c2) (by exact c3) (by exact c4) (by exact fz 3) (by exact fz 4)).mono ?_; rintro e w' ⟨rfl, k2, rfl⟩))
  go_ret
  exact ⟨rfl, ((H.out.drewN _).stopped _).drewN _, grown_drewN (grown_set (grown_set (grown_drewN (grown_refl _ _) _) _ _) _ _) _⟩

set_option maxHeartbeats 400000 in
/-- bytes, within: the bytes are handed back. -/
theorem bytes_ok (g b o : Nat) (n c : Nat) (base i fa m : Int) (w : World) (h : At w g (.slice (some ⟨b, o, none⟩) n c) base i fa false) (hn : n ≤ 1048576) (hnc : n ≤ c) (hc : c ≤ maxLen) (h0 : 0 ≤ i) (h1 : i ≤ n) (m0 : 0 < m) (hm : m ≤ n - i) :
    Calls Yba.prog 11 #[.pointer (some ⟨g, 0, none⟩), .int .u64 m] w fun e w' => e = .returned (.slice (some ⟨b, o + i.toNat, none⟩) m.toNat (c - i.toNat)) ∧ At w' g (.slice (some ⟨b, o, none⟩) n c) base (i + m) fa false ∧ w.grownBy w' (some g) := by
  have H : Hid (At w g (.slice (some ⟨b, o, none⟩) n c) base i fa false) := h
  obtain ⟨c0, c1, c2, c3, c4, fz⟩ := h.cells
  clear h
  unfold maxLen at hc
  go_enter Yba.func11, Yba.ntmps11
  go_wp2_with (first | (go_at_call 15; refine (left_any g _ n c base i fa false _ (by exact H.out) hn h0 h1).mono ?_; rintro e w' ⟨rfl, k, rfl⟩))
  go_quiet (fail)
  go_wp2
  go_ret
  exact ⟨ret_slice (by omega), (H.out.drewN _).set2 _, grown_set (grown_drewN (grown_refl _ _) _) _ _⟩

set_option maxHeartbeats 400000 in
/-- bytes of no byte: an empty slice, at whatever address. -/
theorem bytes_none (g : Nat) (a : Option Addr) (n c : Nat) (base i fa : Int) (w : World) (h : At w g (.slice a n c) base i fa false) (hn : n ≤ 1048576) (hnc : n ≤ c) (hc : c ≤ maxLen) (h0 : 0 ≤ i) (h1 : i ≤ n) :
    Calls Yba.prog 11 #[.pointer (some ⟨g, 0, none⟩), .int .u64 0] w fun e w' => (∃ p c', e = .returned (.slice p 0 c')) ∧ At w' g (.slice a n c) base i fa false ∧ w.grownBy w' (some g) := by
  have H : Hid (At w g (.slice a n c) base i fa false) := h
  obtain ⟨c0, c1, c2, c3, c4, fz⟩ := h.cells
  clear h
  unfold maxLen at hc
  go_enter Yba.func11, Yba.ntmps11
  go_wp2_with (first | (go_at_call 15; refine (left_any g _ n c base i fa false _ (by exact H.out) hn h0 h1).mono ?_; rintro e w' ⟨rfl, k, rfl⟩))
  go_quiet (fail)
  go_wp2
  all_goals
    go_ret
    refine ⟨⟨_, _, ret_slice (by omega)⟩, ?_, grown_set (grown_drewN (grown_refl _ _) _) _ _⟩
    first | exact (H.out.drewN _).set2 i | (have hx := H.out; rw [‹c = i.toNat›] at hx; exact (hx.drewN _).set2 i)

set_option maxHeartbeats 400000 in
/-- byte, where a byte is left. -/
theorem byte_ok (g b o : Nat) (n c : Nat) (base i fa z : Int) (w : World) (h : At w g (.slice (some ⟨b, o, none⟩) n c) base i fa false) (hn : n ≤ 1048576) (hnc : n ≤ c) (hc : c ≤ maxLen) (h0 : 0 ≤ i) (h1 : i < n) (hg : b ≠ g) (hz : w.cell? ⟨b, o + i.toNat, none⟩ = some (.int .u8 z)) :
    Calls Yba.prog 9 #[.pointer (some ⟨g, 0, none⟩)] w fun e w' => e = .returned (.int .u8 z) ∧ At w' g (.slice (some ⟨b, o, none⟩) n c) base (i + 1) fa false ∧ w.grownBy w' (some g) := by
  have e1 := neqnil
  go_enter Yba.func9, Yba.ntmps9
  go_wp2_with fail
  refine (bytes_ok g b o n c base i fa 1 w h hn hnc hc h0 (by omega) (by omega) (by omega)).mono ?_
  rintro e w' ⟨rfl, hA, hG⟩
  have hz' : w'.cell? ⟨b, o + i.toNat, none⟩ = some (.int .u8 z) := hG.cell hz (by simpa using hg)
  go_wp2
  go_ret
  exact ⟨rfl, hA, hG⟩

set_option maxHeartbeats 400000 in
theorem byte_old (g : Nat) (a : Option Addr) (n c : Nat) (base i fa : Int) (w : World) (h : At w g (.slice a n c) base i fa true) :
    Calls Yba.prog 9 #[.pointer (some ⟨g, 0, none⟩)] w fun e w' => e = .returned (.int .u8 0) ∧ At w' g (.slice a n c) base i fa true ∧ w.grownBy w' (some g) := by
  have e1 := neqnil
  go_enter Yba.func9, Yba.ntmps9
  go_wp2_with fail
  refine (bytes_old g a n c base i fa 1 w h).mono ?_
  rintro e w' ⟨rfl, hA, hG⟩
  go_wp2
  go_ret
  exact ⟨rfl, hA, hG⟩

set_option maxHeartbeats 400000 in
theorem byte_stop (g : Nat) (a : Option Addr) (n c : Nat) (base i fa : Int) (w : World) (h : At w g (.slice a n c) base i fa false) (hn : n ≤ 1048576) (h0 : 0 ≤ i) (h1 : i ≤ n) (hm : n - i < 1) :
    Calls Yba.prog 9 #[.pointer (some ⟨g, 0, none⟩)] w fun e w' => e = .returned (.int .u8 0) ∧ At w' g (.slice a n c) base i (IntKind.u64.wrap (base + IntKind.u64.wrap i)) true ∧ w.grownBy w' (some g) := by
  have e1 := neqnil
  go_enter Yba.func9, Yba.ntmps9
  go_wp2_with fail
  refine (bytes_stop g a n c base i fa 1 w h hn h0 h1 hm).mono ?_
  rintro e w' ⟨rfl, hA, hG⟩
  go_wp2
  go_ret
  exact ⟨rfl, hA, hG⟩

set_option maxHeartbeats 400000 in
theorem be32_old (g : Nat) (a : Option Addr) (n c : Nat) (base i fa : Int) (w : World) (h : At w g (.slice a n c) base i fa true) :
    Calls Yba.prog 10 #[.pointer (some ⟨g, 0, none⟩)] w fun e w' => e = .returned (.int .u32 0) ∧ At w' g (.slice a n c) base i fa true ∧ w.grownBy w' (some g) := by
  have e1 := neqnil
  go_enter Yba.func10, Yba.ntmps10
  go_wp2_with fail
  refine (bytes_old g a n c base i fa 4 w h).mono ?_
  rintro e w' ⟨rfl, hA, hG⟩
  go_wp2
  go_ret
  exact ⟨rfl, hA, hG⟩

set_option maxHeartbeats 400000 in
theorem be32_stop (g : Nat) (a : Option Addr) (n c : Nat) (base i fa : Int) (w : World) (h : At w g (.slice a n c) base i fa false) (hn : n ≤ 1048576) (h0 : 0 ≤ i) (h1 : i ≤ n) (hm : n - i < 4) :
    Calls Yba.prog 10 #[.pointer (some ⟨g, 0, none⟩)] w fun e w' => e = .returned (.int .u32 0) ∧ At w' g (.slice a n c) base i (IntKind.u64.wrap (base + IntKind.u64.wrap i)) true ∧ w.grownBy w' (some g) := by
  have e1 := neqnil
  go_enter Yba.func10, Yba.ntmps10
  go_wp2_with fail
  refine (bytes_stop g a n c base i fa 4 w h hn h0 h1 hm).mono ?_
  rintro e w' ⟨rfl, hA, hG⟩
  go_wp2
  go_ret
  exact ⟨rfl, hA, hG⟩

set_option maxHeartbeats 400000 in
/-- be32, where four bytes are left: the number that they spell. -/
theorem be32_ok (g b o : Nat) (n c : Nat) (base i fa : Int) (zs : List Int) (w : World) (h : At w g (.slice (some ⟨b, o, none⟩) n c) base i fa false) (hn : n ≤ 1048576) (hnc : n ≤ c) (hc : c ≤ maxLen) (h0 : 0 ≤ i) (h1 : i + 4 ≤ n) (hg : b ≠ g)
    (hl : zs.length = 4) (hz : ∀ j, j < zs.length → w.cell? ((⟨b, o + i.toNat, none⟩ : Addr).add j) = some (.int .u8 (zs.getD j 0))) (hw : ∀ z ∈ zs, (Lit.int .u8 z).wf = true) :
    Calls Yba.prog 10 #[.pointer (some ⟨g, 0, none⟩)] w fun e w' => e = .returned (.int .u32 (Lib.beZ (zs.take 4))) ∧ At w' g (.slice (some ⟨b, o, none⟩) n c) base (i + 4) fa false ∧ w.grownBy w' (some g) := by
  have e1 := neqnil
  have HZ : Hid (∀ j, j < zs.length → w.cell? ((⟨b, o + i.toNat, none⟩ : Addr).add j) = some (.int .u8 (zs.getD j 0))) := hz
  have HW : Hid (∀ z ∈ zs, (Lit.int .u8 z).wf = true) := hw
  have HL : Hid (zs.length = 4) := hl
  clear hz hw hl
  go_enter Yba.func10, Yba.ntmps10
  go_wp2_with fail
  refine (bytes_ok g b o n c base i fa 4 w h hn hnc hc h0 (by omega) (by omega) (by omega)).mono ?_
  rintro e w' ⟨rfl, hA, hG⟩
  go_wp2_with (first | (go_at_call 14; refine (Yba.binary_BE_Uint32_z ⟨b, o + i.toNat, none⟩ _ _ zs _ (by simp) (by rw [HL.out]; exact Nat.le_refl _) (fun j hj => hG.cell (HZ.out j hj) (by simp [Addr.add]; split <;> simpa using hg)) HW.out).mono ?_; rintro e w2 ⟨rfl, hb⟩))
  go_ret
  exact ⟨rfl, hA.below hb, grown_below hG hb⟩
end Go.Proofs.Ybulkefbg.Rd
