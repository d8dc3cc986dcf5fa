/- LawS6572AWhole: 'listed' reckons the list in words. -/
import Derived.Test.YbulkefbuA1
import Derived.Test.YbulkefbuShelf
import Derived.Deep.RegionHeld3
import Derived.Deep.RegionWith
import Derived.Deep.DrawnRows
namespace Go.Proofs.Ybulkefbu.A
open Go.RowKit
open B (Row cell_keep)
set_option linter.unusedVariables false

set_option maxHeartbeats 1000000 in
theorem listed_small (p : Option Addr) (ss : List ByteArray) (c : Nat) (w : World) (h : Row w p ss) (h1 : ss.length ≤ 1) (hc : ss.length ≤ c) (ht : tot ss ss.length ≤ 4194304) :
    Calls Yba.prog 6 #[.slice p ss.length c] w fun e w' => (∃ r, e = .returned (.string r) ∧ r.data.toList = listedL (bytes ss)) ∧ Below w.heap.size w w' := by
  match ss, h1 with
  | [], _ =>
    have hj := Yba.strings_Join_none p c ⟨#[]⟩ w
    have HJ := Hid.mk hj
    clear hj h ht
    go_enter Yba.func6, Yba.ntmps6
    go_wp2_with (go_at_call 18; refine HJ.out.mono ?_; rintro e w' ⟨rfl, rfl⟩)
    go_ret
    exact ⟨⟨_, rfl, rfl⟩, Below.refl _ _⟩
  | [x], _ =>
    obtain ⟨b, o, rfl, hcc⟩ := h (by simp)
    have c0 := hcc 0 (by simp)
    have hx : x.size ≤ 4194304 := by simp [tot] at ht; omega
    have hj := Yba.strings_Join b o c [x] ⟨#[]⟩ w (fun j y hy => by
      have hj0 : j = 0 := by
        have := (List.getElem?_eq_some_iff.1 hy).1
        simp at this; exact this
      subst hj0
      simp at hy
      subst hy
      simpa using c0) (World.block_lt_of_cell? w _ c0) (by simp) (by simpa using hc) (by simp [Lib.join_one]; omega)
    have HJ := Hid.mk hj
    clear hj ht hcc c0
    go_enter Yba.func6, Yba.ntmps6
    go_wp2_with (go_at_call 18; refine HJ.out.mono ?_; rintro e w' ⟨rfl, hb⟩)
    go_ret
    exact ⟨⟨_, rfl, by simp [listedL, bytes, Lib.join_one]⟩, hb⟩

/-- What the region holds to. -/
def Kept (w W : World) (a : Addr) (x : ByteArray) : Prop := W.cell? a = some (.string x) ∧ Below w.heap.size w W
theorem kept_drew {w W : World} {a : Addr} {x : ByteArray} (h : W.cell? a = some (.string x)) (hb : Hid (Below w.heap.size w W)) : W.drew.cell? a = some (.string x) ∧ Hid (Below w.heap.size w W.drew) := ⟨h, hb.out.drew⟩
theorem kept_call {w W W' : World} {a : Addr} {x : ByteArray} (h : W.cell? a = some (.string x)) (hb : Hid (Below w.heap.size w W)) (hc : Below W.heap.size W W') : W'.cell? a = some (.string x) ∧ Hid (Below w.heap.size w W') := ⟨cell_keep hc h, hb.out.trans (hc.mono hb.out.size)⟩

def andB : ByteArray := ⟨#[32, 97, 110, 100, 32]⟩

set_option maxHeartbeats 4000000 in
theorem listed_core (b o c m : Nat) (x y : ByteArray) (w : World) (hm1 : 1 ≤ m) (hm2 : m ≤ 4194304) (hc1 : m + 1 ≤ c) (hc2 : c ≤ 140737488355328) (hyl : y.size ≤ 4194304) (hxl : x.size ≤ 4194304)
    (HJ : Hid (∀ W, Below w.heap.size w W → Calls Yba.prog 18 #[.slice (some ⟨b, o, none⟩) m c, .string ⟨#[44, 32]⟩] W fun e w' => e = .returned (.string y) ∧ Below W.heap.size W w'))
    (c1 : w.cell? ⟨b, o + m, none⟩ = some (.string x)) :
    Calls Yba.prog 6 #[.slice (some ⟨b, o, none⟩) (m + 1) c] w fun e w' => (∃ r, e = .returned (.string r) ∧ r = y ++ andB ++ x) ∧ Below w.heap.size w w' := by
  have HB0 : Hid (Below w.heap.size w w) := Below.refl _ _
  have e1 : (m : Int) ≤ (c : Int) := by omega
  have e2 : (m : Int) < (m : Int) + 1 := by omega
  have e3 : (0 : Int) ≤ (m : Int) := by omega
  have s1 : (9223372036854775807 < y.size + 5) = False := eq_false (by omega)
  have s2 : (9223372036854775807 < y.size + 5 + x.size) = False := eq_false (by omega)
  go_enter Yba.func6, Yba.ntmps6
  go_wp2
  go_region_held3 (fun W => W.cell? ⟨b, o + m, none⟩ = some (.string x) ∧ Hid (Below w.heap.size w W)) (first | (go_split_ands; first | exact ⟨by assumption, by assumption⟩ | exact kept_drew (by assumption) (by assumption) | exact kept_call (by assumption) (by assumption) (by assumption))) (first | (go_at_call 18; refine (HJ.out _ (Hid.out (And.right (by assumption)))).mono ?_; rintro e w' ⟨rfl, hb⟩))
  go_wp2
  go_ret
  exact ⟨⟨_, rfl, rfl⟩, Hid.out (And.right (by assumption))⟩

theorem listed_any (p : Option Addr) (ss : List ByteArray) (c : Nat) (w : World) (h : Row w p ss) (hc : ss.length ≤ c) (hc2 : c ≤ 140737488355328) (ht : tot ss ss.length ≤ 4194304) :
    Calls Yba.prog 6 #[.slice p ss.length c] w fun e w' => (∃ r, e = .returned (.string r) ∧ r.data.toList = listedL (bytes ss)) ∧ Below w.heap.size w w' := by
  by_cases h1 : ss.length ≤ 1
  · exact listed_small p ss c w h h1 hc ht
  · obtain ⟨b, o, rfl, hcc⟩ := h (by omega)
    have h5 := Nat.le_trans (tot_five ss ss.length) ht
    obtain ⟨m, hm⟩ : ∃ m, ss.length = m + 1 := ⟨ss.length - 1, by omega⟩
    have c1 := hcc m (by omega)
    have hll := listed_len ss
    have eL : listedL (bytes ss) = Lib.join (bytes (ss.take m)) comma ++ and5 ++ (ss.getD m ByteArray.empty).data.toList := by
      unfold listedL
      rw [bytes_len, if_neg h1, bytes_getD, hm]
      simp [bytes]
    have hJl : (Lib.join (bytes (ss.take m)) comma).length ≤ 4194304 := by
      rw [eL] at hll
      simp only [List.length_append] at hll
      omega
    have hJ : ∀ W, Below w.heap.size w W → Calls Yba.prog 18 #[.slice (some ⟨b, o, none⟩) m c, .string ⟨#[44, 32]⟩] W fun e w' => e = .returned (.string ⟨(Lib.join (bytes (ss.take m)) comma).toArray⟩) ∧ Below W.heap.size W w' := by
      intro W hW
      have hl : (ss.take m).length = m := by simp; omega
      have := Yba.strings_Join b o c (ss.take m) ⟨#[44, 32]⟩ W (fun j y hy => by
        have hj : j < m := by
          have := (List.getElem?_eq_some_iff.1 hy).1
          omega
        have := hcc j (by omega)
        rw [cell_keep hW this]
        rw [List.getElem?_take_of_lt hj] at hy
        simp [List.getD, hy]) (Nat.lt_of_lt_of_le (World.block_lt_of_cell? w _ c1) hW.size) (by omega) (by omega) (Nat.le_trans hJl (by omega))
      rw [hl] at this
      exact this
    have hx := size_le ss m (by omega)
    rw [hm] at hc ht hx ⊢
    refine (listed_core b o c m (ss.getD m ByteArray.empty) ⟨(Lib.join (bytes (ss.take m)) comma).toArray⟩ w (by omega) (by omega) hc hc2 (by show (Lib.join (bytes (ss.take m)) comma).toArray.size ≤ _; simpa using hJl) (by omega) (Hid.mk hJ) c1).mono ?_
    rintro e w' ⟨⟨r, rfl, rfl⟩, hb⟩
    refine ⟨⟨_, rfl, ?_⟩, hb⟩
    rw [eL, toList_append, toList_append]
    simp [andB, and5]
end Go.Proofs.Ybulkefbu.A
