/- LawS6569CWhole: ValidateValue. -/
import Derived.Test.YbulkefaeFmtF3
import Derived.Test.YbulkefaeFmtShelf
namespace Go.Proofs.YbulkefaeFmt
open Go.RowKit Go.Extern.Stop Go.Stop Go.Extern
set_option linter.unusedVariables false

theorem empty_of (s : ByteArray) (h : s.size = 0) : s = ⟨#[]⟩ := by
  obtain ⟨d⟩ := s
  have : d.size = 0 := h
  rw [Array.size_eq_zero_iff] at this
  rw [this]
theorem isEmpty_of (s : ByteArray) (h : s.size ≠ 0) : s.toList.isEmpty = false := by
  have : s.toList.length = s.size := by rw [ByteArray.toList_eq]; simp
  cases hl : s.toList with
  | nil => rw [hl] at this; simp at this; omega
  | cons a b => rfl

theorem white_below {w w' : World} (h : Lib.WhiteTab 1 w) (hb : Below w.heap.size w w') : Lib.WhiteTab 1 w' := WhiteTab_below h hb

theorem two0 (w : World) (t : TypeId) (x y : Value) : (w.alloc (.cells #[x, y] t)).cell? ⟨w.heap.size, 0, none⟩ = some x := by
  have : (w.alloc (.cells #[x, y] t)).heap[w.heap.size]? = some (.cells #[x, y] t) := heap_alloc_new w _
  unfold World.cell?
  simp only [this]
  rfl
theorem two1 (w : World) (t : TypeId) (x y : Value) : (w.alloc (.cells #[x, y] t)).cell? ⟨w.heap.size, 1, none⟩ = some y := by
  have : (w.alloc (.cells #[x, y] t)).heap[w.heap.size]? = some (.cells #[x, y] t) := heap_alloc_new w _
  unfold World.cell?
  simp only [this]
  rfl

/-- How ValidateValue ends. -/
def Judged (s : ByteArray) (w : World) (e : Ending) (w' : World) : Prop :=
  (if validS s then e = .returned .nilIface else ∃ k, e = .returned (.iface 87 (.pointer (some ⟨k, 0, none⟩))) ∧ w.heap.size ≤ k ∧ PlainAt w' k) ∧ Below w.heap.size w w'

theorem judged_new {s : ByteArray} {w w1 w' : World} {e : Ending} (hv : validS s = false) (hb : Below w.heap.size w w1) (h : NewErr w1 e w') : Judged s w e w' := by
  obtain ⟨k, he, hk, hpl, hb2⟩ := h
  refine ⟨?_, hb.trans (hb2.mono hb.size)⟩
  rw [if_neg (by rw [hv]; simp)]
  exact ⟨k, he, Nat.le_trans hb.size hk, hpl⟩

theorem validate_empty (F : Interp) (w : World) (hF : F.answers w.tape) : Calls Ybaf.prog 34 #[.string ⟨#[]⟩] w (Judged ⟨#[]⟩ w) := by
  go_enter Ybaf.func34, Ybaf.ntmps34
  go_wp2_with (go_at_call 36; refine (errorf0 F w hF).mono ?_; rintro e w' ⟨k, rfl, hk, hpl, hb⟩)
  go_ret
  exact judged_new (by rfl) (Below.refl _ _) ⟨k, rfl, hk, hpl, hb⟩

set_option maxHeartbeats 1000000 in
theorem validate_long (F : Interp) (s : ByteArray) (w : World) (hF : F.answers w.tape) (h255 : 255 < s.size) (hs : s.size ≤ 140737488355328) : Calls Ybaf.prog 34 #[.string s] w (Judged s w) := by
  have hv : validS s = false := by
    unfold validS
    have : decide (s.size ≤ 255) = false := by simp; omega
    simp [this]
  have h1 := isEmpty_of s (by omega)
  have h2 : (255 : Int) < (s.size : Int) := by omega
  go_enter Ybaf.func34, Ybaf.ntmps34
  go_wp2_with (go_at_call 36; refine (errorf1 F s.size 255 w.heap.size _ (by exact hF) (by go_simp) (by go_simp)).mono ?_; rintro e w' ⟨k, rfl, hk, hpl, hb⟩)
  go_ret
  exact judged_new hv ((Below.refl _ _).alloc (Nat.le_refl _) _) ⟨k, rfl, hk, hpl, hb⟩

set_option maxHeartbeats 2000000 in
theorem validate_loop (F : Interp) (s : ByteArray) (w : World) (hF : F.answers w.tape) (hW : Lib.WhiteTab 1 w) (h0 : s.size ≠ 0) (h255 : s.size ≤ 255) : Calls Ybaf.prog 34 #[.string s] w (Judged s w) := by
  have hv : validS s = !spaced s s.size 0 := by simp [validS, h0, h255]
  have HV0 := Hid.mk hv
  have HW := Hid.mk hW
  have h1 := isEmpty_of s h0
  have h2 : (s.size : Int) ≤ 255 := by omega
  clear hv hW
  go_enter Ybaf.func34, Ybaf.ntmps34
  go_wp2
  go_loopw [4] (fun _ wr => Ranged w wr s) (fun _ wr => s.size - wr.iterPos w.heap.size)
  case atStart => exact ⟨0, s.size, at_start w s, by omega, rfl⟩
  case round =>
    obtain ⟨pos, f, hat, hf, hsp⟩ := hrel
    have hp := at_pos hat
    by_cases hlt : pos < s.size
    · obtain ⟨f, rfl⟩ : ∃ f', f = f' + 1 := ⟨f - 1, by omega⟩
      rw [spaced, if_pos hlt] at hsp
      have hnx := fun ty => Lib.run_next_any_at (P := Ybaf.prog) wr w.heap.size s pos ty hat.2 hlt
      have hwd := decode_wide s pos hlt
      have hle := decode_le s pos
      have HA : Hid (At w (wr.iterAt w.heap.size s (pos + (Utf8.decode s pos).2)) s (pos + (Utf8.decode s pos).2)) := at_next hat
      have HS := Hid.mk hsp
      clear hat hsp
      generalize hW : wr.iterAt w.heap.size s (pos + (Utf8.decode s pos).2) = W at *
      generalize (Utf8.decode s pos).2 = d at *
      generalize (Utf8.decode s pos).1 = r at *
      clear hW
      have HT : Hid (Lib.WhiteTab 1 W) := white_below HW.out HA.out.1
      cases hb : Lib.isSpaceZ (r : Int) with
      | true =>
        have HV : Hid (validS s = false) := by unfold Hid; rw [HV0.out, HS.out, if_pos hb]; rfl
        go_wp2_with (first | (go_at_call 44; refine (Ybaf.unicode_IsSpace_any_d (r : Int) W (by omega) (by omega) HT.out).mono ?_; rintro e w' ⟨rfl, q, rfl⟩) | (go_at_call 36; refine (errorf2 F s r (W.drewN q).heap.size _ (by exact HA.out.1.tape ▸ hF) (two0 _ _ _ _) (two1 _ _ _ _)).mono ?_; rintro e w' ⟨k, rfl, hk, hpl, hbb⟩))
        go_ret
        exact judged_new HV.out ((at_drewN HA.out q).1.alloc (at_drewN HA.out q).1.size _) ⟨k, rfl, hk, hpl, hbb⟩
      | false =>
        have HV : Hid (spaced s s.size 0 = spaced s f (pos + d)) := by unfold Hid; rw [HS.out, if_neg (by rw [hb]; simp)]
        go_wp2_with (first | (go_at_call 44; refine (Ybaf.unicode_IsSpace_any_d (r : Int) W (by omega) (by omega) HT.out).mono ?_; rintro e w' ⟨rfl, q, rfl⟩))
        go_roundw
        case rel => exact ⟨pos + d, f, at_drewN HA.out q, by omega, HV.out⟩
        case measure => rw [at_pos (at_drewN HA.out q), hp]; omega
    · have hnx := fun ty => Lib.run_next_end_at (P := Ybaf.prog) wr w.heap.size s pos ty hat.2 hlt
      have HV : Hid (validS s = true) := by
        unfold Hid; rw [HV0.out, hsp]
        cases f with
        | zero => rfl
        | succ f => rw [spaced, if_neg hlt]; rfl
      have HA := Hid.mk hat
      clear hat hsp
      go_wp2
      go_ret
      exact ⟨by rw [if_pos HV.out]; rfl, HA.out.1⟩

theorem validate_any (F : Interp) (s : ByteArray) (w : World) (hF : F.answers w.tape) (hW : Lib.WhiteTab 1 w) (hs : s.size ≤ 140737488355328) : Calls Ybaf.prog 34 #[.string s] w (Judged s w) := by
  by_cases h0 : s.size = 0
  · obtain rfl := empty_of s h0
    exact validate_empty F w hF
  · by_cases h : 255 < s.size
    · exact validate_long F s w hF h hs
    · exact validate_loop F s w hF hW h0 (by omega)
end Go.Proofs.YbulkefaeFmt
