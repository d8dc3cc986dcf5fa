/- LawS6572AWhole: the law's walk. -/
import Derived.Test.YbulkefbuA2
namespace Go.Proofs.Ybulkefbu.A
open Go.RowKit
open B (Row cell_keep)
set_option linter.unusedVariables false

def out (ss : List ByteArray) : ByteArray := ⟨(listedL (bytes ss)).toArray⟩
theorem listed_out (p : Option Addr) (ss : List ByteArray) (c : Nat) (w : World) (h : Row w p ss) (hc : ss.length ≤ c) (hc2 : c ≤ 140737488355328) (ht : tot ss ss.length ≤ 4194304) :
    Calls Yba.prog 6 #[.slice p ss.length c] w fun e w' => e = .returned (.string (out ss)) ∧ Below w.heap.size w w' := by
  refine (listed_any p ss c w h hc hc2 ht).mono ?_
  rintro e w' ⟨⟨r, rfl, hr⟩, hb⟩
  refine ⟨?_, hb⟩
  have : r = out ss := by unfold out; rw [← hr]
  rw [this]
theorem model_out (p : Option Addr) (ss : List ByteArray) (c : Nat) (w : World) (h : Row w p ss) (ht : tot ss ss.length ≤ 4194304) :
    Calls Yba.prog 7 #[.slice p ss.length c] w fun e w' => e = .returned (.string (out ss)) ∧ Below w.heap.size w w' := model_any p ss c w h ht

/-- The row copied. -/
theorem row_copied {w2 : World} {g : Nat} {ss : List ByteArray} (hg : w2.heap[g]? = some (.cells (ss.map Value.string).toArray 9 (0, 0))) : Row w2 (some ⟨g, 0, none⟩) ss := fun _ =>
  ⟨g, 0, rfl, fun j hj => by
    unfold World.cell?
    simp only [hg]
    simp [List.getD, hj]⟩

theorem below_drewN {B : Nat} {a w : World} (h : Below B a w) (k : Nat) : Below B a (w.drewN k) := ⟨h.os, h.tape, h.output, h.size, h.block⟩

set_option maxHeartbeats 4000000 in
theorem law_walk (p : Option Addr) (ss : List ByteArray) (c : Nat) (w : World) (h : Row w p ss) (hn : p = none → ss.length = 0) (hc : ss.length ≤ c) (hc2 : c ≤ 8796093022207) (hs : ∀ k, k < ss.length → (ss.getD k ByteArray.empty).size ≤ 140737488355328) :
    Calls Yba.prog 3 #[.slice p ss.length c] w fun e w' => e = .returned (.bool true) ∧ Below w.heap.size w w' := by
  have H := Hid.mk h
  have HS := Hid.mk hs
  have HN := Hid.mk hn
  have e2 := B.neqnil22
  clear h hs hn
  go_enter Yba.func3, Yba.ntmps3
  go_wp2
  go_loop [3, 4] (fun t i => ∃ k : Nat, k ≤ ss.length ∧ i = .int .i64 k ∧ t = .int .i64 (tot ss k) ∧ tot ss k ≤ 4194304) (fun _ i => ss.length - (intOf i).toNat)
  case atStart => exact ⟨0, Nat.zero_le _, rfl, rfl, by simp [tot]⟩
  case round =>
    obtain ⟨k, hk, rfl, rfl, ht⟩ := hrel
    by_cases hlt : k < ss.length
    · obtain ⟨b, o, rfl, hcc⟩ := H.out (by omega)
      have c1 := hcc k hlt
      have hkI : (k : Int) < (ss.length : Int) := by omega
      have hsz := HS.out k hlt
      have HT : Hid (tot ss (k + 1) = tot ss k + ((ss.getD k ByteArray.empty).size + 5)) := rfl
      generalize tot ss k = t at *
      generalize ss.getD k ByteArray.empty = x at *
      clear hcc
      by_cases hgt : t + (x.size + 5) ≤ 4194304
      · have hg : decide ((4194304 : Int) < (t : Int) + ((x.size : Int) + 5)) = false := by simp; omega
        go_wp2
        go_round
        case rel => exact ⟨k + 1, by omega, by go_num, by rw [HT.out]; go_num, by rw [HT.out]; exact hgt⟩
        case measure => simp [intOf]; omega
      · have hg : decide ((4194304 : Int) < (t : Int) + ((x.size : Int) + 5)) = true := by simp; omega
        go_wp2
        go_ret
        exact ⟨rfl, Below.refl _ _⟩
    · obtain rfl : k = ss.length := by omega
      have hge : decide ((ss.length : Int) < (ss.length : Int)) = false := by simp
      have HT := Hid.mk ht
      clear ht hlt hk
      cases hp : p with
      | none =>
        subst hp
        have h0 := HN.out rfl
        have hss : ss = [] := List.eq_nil_of_length_eq_zero h0
        subst hss
        clear h0
        go_wp2_with (first | (go_at_call 6; refine (listed_out none [] c w H.out hc (by omega) HT.out).mono ?_; rintro e w' ⟨rfl, hb⟩))
        have HB := Hid.mk hb
        clear hb
        go_loop [7] (fun i => i = .int .i64 0) (fun i => 0)
        case atStart => rfl
        case round =>
          subst hrel
          go_wp2_with (first | (go_at_call 7; refine (model_out none [] 0 w' (fun h => absurd h (Nat.lt_irrefl 0)) HT.out).mono ?_; rintro e w5 ⟨rfl, hb5⟩))
          go_ret
          exact ⟨rfl, HB.out.trans (hb5.mono HB.out.size)⟩
      | some y =>
        subst hp
        obtain ⟨w2, hrun, hg2, hb2⟩ := B.copy_run w y ss c H.out
        have hmk := B.mk22 ss.length (by omega)
        have HG2 := Hid.mk hg2
        have HB2 := Hid.mk hb2
        have H2 : Hid (Row w2 (some y) ss) := H.out.keep hb2
        clear hg2 hb2
        have hcI : (ss.length : Int) ≤ (c : Int) := by omega
        go_wp2_with (first | (go_at_call 6; refine (listed_out (some y) ss c w2 H2.out hc (by omega) HT.out).mono ?_; rintro e w3 ⟨rfl, hb⟩))
        have HB3 := Hid.mk hb
        have H3 : Hid (Row w3 (some y) ss) := H2.out.keep hb
        have H4 : Hid (Row w3 (some ⟨w.heap.size, 0, none⟩) ss) := (row_copied HG2.out).keep hb
        have HB : Hid (Below w.heap.size w w3) := HB2.out.trans (hb.mono HB2.out.size)
        clear hb hrun hmk
        go_loopw [7] (fun i wr => ∃ k m : Nat, k ≤ ss.length ∧ i = .int .i64 k ∧ wr = w3.drewN m) (fun i _ => ss.length - (intOf i).toNat)
        case atStart => exact ⟨0, 0, Nat.zero_le _, rfl, rfl⟩
        case round =>
          obtain ⟨k, m, hk, rfl, rfl⟩ := hrel
          by_cases hlt : k < ss.length
          · obtain ⟨b, o, hy, hcc⟩ := H3.out (by omega)
            obtain ⟨b', o', hy', hcc'⟩ := H4.out (by omega)
            simp only [Option.some.injEq] at hy
            subst hy
            simp only [Option.some.injEq, Addr.mk.injEq] at hy'
            obtain ⟨rfl, rfl, _⟩ := hy'
            have c1 := hcc k hlt
            have c2 := hcc' k hlt
            rw [Nat.zero_add] at c2
            have hkI : (k : Int) < (ss.length : Int) := by omega
            generalize ss.getD k ByteArray.empty = s at *
            clear hcc hcc'
            go_wp2
            go_quiet (fail)
            go_wp2
            go_roundw
            case rel => exact ⟨k + 1, _, by omega, by go_num, rfl⟩
            case measure => simp [intOf]; omega
          · have hge2 : decide ((k : Int) < (ss.length : Int)) = false := by simp; omega
            go_wp2_with (first | (go_at_call 7; refine (model_out (some ⟨w.heap.size, 0, none⟩) ss ss.length (w3.drewN m) (H4.out.drewN m) HT.out).mono ?_; rintro e w5 ⟨rfl, hb5⟩))
            go_ret
            exact ⟨rfl, (below_drewN HB.out m).trans (hb5.mono (below_drewN HB.out m).size)⟩
end Go.Proofs.Ybulkefbu.A
