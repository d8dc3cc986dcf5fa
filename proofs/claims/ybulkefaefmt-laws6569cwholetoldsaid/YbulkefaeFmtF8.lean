/- LawS6569CWhole: a string, a count, out of the decoder. -/
import Derived.Test.YbulkefaeFmtF7
namespace Go.Proofs.YbulkefaeFmt
open Go.RowKit
set_option linter.unusedVariables false

/-- The decoder stands at the bytes l, with no error. -/
structure Ready (w : World) (D : Nat) (p : Option Addr) (l : List UInt8) (c : Nat) (a1 a2 : Addr) : Prop where
  dec : Dec w D (.slice p l.length c) .nilIface
  lies : Bytes w p l
  hc : l.length ≤ c
  hcc : c ≤ 9223372036854775807
  pn : p = none → l = []
  pD : 0 < l.length → ∀ a, p = some a → a.block ≠ D
  sent : Sent w a1 a2
  hD : 2 < D

theorem qFrom_block {p : Option Addr} {c k : Nat} {D : Nat} (h : ∀ a, p = some a → a.block ≠ D) : ∀ a, qFrom p c k = some a → a.block ≠ D := by
  intro a ha
  unfold qFrom at ha
  split at ha
  · exact h a ha
  · cases p with
    | none => simp at ha
    | some q =>
      simp at ha
      subst ha
      have := h q rfl
      unfold Addr.add
      split <;> exact this
theorem qFrom_none {p : Option Addr} {c k : Nat} (h : qFrom p c k = none) : p = none := by
  unfold qFrom at h
  split at h
  · exact h
  · simpa using h
theorem sent_grown {w w' : World} {D : Nat} {a1 a2 : Addr} (h : Sent w a1 a2) (hg : w.grownBy w' (some D)) (hD : 2 < D) : Sent w' a1 a2 :=
  ⟨grown_cell hg h.1 (by simp; omega), grown_cell hg h.2 (by simp; omega)⟩

theorem Ready.step {w w' : World} {D : Nat} {p : Option Addr} {l : List UInt8} {c : Nat} {a1 a2 : Addr} (h : Ready w D p l c a1 a2) {k : Nat} (hk : k ≤ l.length) (hM : Moved w w' D (.slice (qFrom p c k) (l.length - k) (c - k)) .nilIface) :
    Ready w' D (qFrom p c k) (l.drop k) (c - k) a1 a2 := by
  have hl : (l.drop k).length = l.length - k := List.length_drop
  have := h.hc
  have := h.hcc
  exact ⟨by rw [hl]; exact hM.1, (grown_bytes hM.2 h.lies h.pD).from_ k h.hc, by omega, by omega, fun hq => by rw [h.pn (qFrom_none hq)]; simp, fun h0 => qFrom_block (h.pD (by omega)), sent_grown h.sent hM.2 h.hD, h.hD⟩

theorem Moved.trans {w w1 w2 : World} {D : Nat} {vb ve vb' ve' : Value} (h : Moved w w1 D vb ve) (k : Moved w1 w2 D vb' ve') : Moved w w2 D vb' ve' := ⟨k.1, grown_trans h.2 k.2⟩

set_option maxHeartbeats 1000000 in
theorem string_ok {l : List UInt8} {v k : Nat} (hr : rd l = (v, k, 0)) (hv : v ≤ l.length - k) (D : Nat) (p : Option Addr) (c : Nat) (a1 a2 : Addr) (w : World) (h : Ready w D p l c a1 a2) :
    Calls Ybaf.prog 33 #[.pointer (some ⟨D, 0, none⟩)] w fun e w' => e = .returned (.string (ofL ((l.drop k).take v))) ∧ Ready w' D (qFrom (qFrom p c k) (c - k) v) ((l.drop k).drop v) (c - k - v) a1 a2 ∧ w.grownBy w' (some D) := by
  have hle : k ≤ l.length := by have := rd_used l; rw [hr] at this; exact this
  have hl : (l.drop k).length = l.length - k := List.length_drop
  have hlt : ((l.drop k).take v).length = v := by rw [List.length_take, hl]; omega
  have HU := Hid.mk (uvarint_ok hr D p c w h.dec h.lies h.hc h.hcc)
  have H := Hid.mk h
  have hc := h.hc
  have hcc := h.hcc
  clear h
  go_enter Ybaf.func33, Ybaf.ntmps33
  go_wp2_with (first | (go_at_call 43; refine HU.out.mono ?_; rintro e w2 ⟨rfl, hM⟩; have HR2 := Hid.mk (H.out.step hle hM); have HM := Hid.mk hM; clear hM) | (go_at_call 13; refine (bytes_ok D (qFrom p c k) (l.length - k) (c - k) v w2 HM.out.1 hv (by omega) (by omega)).mono ?_; rintro e w3 ⟨rfl, hM3⟩; have hM3' : Moved w2 w3 D (.slice (qFrom (qFrom p c k) (c - k) v) ((l.drop k).length - v) (c - k - v)) .nilIface := (by rw [hl]; exact hM3); have HR3 := Hid.mk (HR2.out.step (by omega) hM3'); have HG := Hid.mk (grown_trans HM.out.2 hM3.2); have hcv := convert_back (c := v) ((grown_bytes hM3.2 HR2.out.lies HR2.out.pD).to_ v) (fun hq => by rw [HR2.out.pn hq]; simp); rw [hlt] at hcv; clear hM3 hM3'))
  go_ret
  exact ⟨rfl, HR3.out, HG.out⟩

set_option maxHeartbeats 1000000 in
theorem string_short {l : List UInt8} {v k : Nat} (hr : rd l = (v, k, 0)) (hv : l.length - k < v) (D : Nat) (p : Option Addr) (c : Nat) (a1 a2 : Addr) (w : World) (h : Ready w D p l c a1 a2) :
    Calls Ybaf.prog 33 #[.pointer (some ⟨D, 0, none⟩)] w fun e w' => e = .returned (.string ⟨#[]⟩) ∧ ∃ vb, Moved w w' D vb (eOf a1 a2 1) := by
  have hle : k ≤ l.length := by have := rd_used l; rw [hr] at this; exact this
  have hvb : v < 18446744073709551616 := by have := rd_lt l; rw [hr] at this; exact this
  have HU := Hid.mk (uvarint_ok hr D p c w h.dec h.lies h.hc h.hcc)
  have H := Hid.mk h
  have hc := h.hc
  have hcc := h.hcc
  have hcv := fun w => convert_back (w := w) (p := none) (l := []) (c := 0) (fun h => absurd h (Nat.lt_irrefl 0)) (fun _ => rfl)
  simp only [List.length_nil] at hcv
  clear h
  go_enter Ybaf.func33, Ybaf.ntmps33
  go_wp2_with (first | (go_at_call 43; refine HU.out.mono ?_; rintro e w2 ⟨rfl, hM⟩; have HR2 := Hid.mk (H.out.step hle hM); have HM := Hid.mk hM; clear hM) | (go_at_call 13; refine (bytes_short D (qFrom p c k) (l.length - k) (c - k) v a1 a2 w2 HM.out.1 HR2.out.sent hv hvb (by omega) (by omega)).mono ?_; rintro e w3 ⟨rfl, hM3⟩; have HG := Hid.mk (HM.out.trans hM3); clear hM3))
  go_ret
  exact ⟨rfl, _, HG.out⟩

theorem eOf_iface (a1 a2 : Addr) (st : Nat) : ∃ k, eOf a1 a2 st = .iface 87 (.pointer (some k)) := by
  unfold eOf; split <;> exact ⟨_, rfl⟩

set_option maxHeartbeats 1000000 in
theorem string_bad {l : List UInt8} {v k st : Nat} (hr : rd l = (v, k, st)) (h0 : st ≠ 0) (D : Nat) (p : Option Addr) (c : Nat) (a1 a2 : Addr) (w : World) (h : Ready w D p l c a1 a2) :
    Calls Ybaf.prog 33 #[.pointer (some ⟨D, 0, none⟩)] w fun e w' => e = .returned (.string ⟨#[]⟩) ∧ ∃ vb, Moved w w' D vb (eOf a1 a2 st) := by
  have HU := Hid.mk (uvarint_bad hr h0 D p c a1 a2 w h.dec h.lies h.sent)
  have hcv := fun w => convert_back (w := w) (p := none) (l := []) (c := 0) (fun h => absurd h (Nat.lt_irrefl 0)) (fun _ => rfl)
  simp only [List.length_nil] at hcv
  obtain ⟨kk, hkk⟩ := eOf_iface a1 a2 st
  have HK := Hid.mk hkk
  clear h hkk
  go_enter Ybaf.func33, Ybaf.ntmps33
  go_wp2_with (first | (go_at_call 43; refine HU.out.mono ?_; rintro e w2 ⟨rfl, hM⟩; have HM := Hid.mk hM; clear hM) | (go_at_call 13; refine (bytes_stopped D _ kk 0 w2 (by have := HM.out.1; rw [HK.out] at this; exact this)).mono ?_; rintro e w3 ⟨rfl, hw2⟩; have hw3 := hw2.symm; clear hw2; subst hw3))
  go_ret
  exact ⟨rfl, _, HM.out⟩

set_option maxHeartbeats 1000000 in
theorem count_ok {l : List UInt8} {v k : Nat} (hr : rd l = (v, k, 0)) (hv : v ≤ l.length - k) (D : Nat) (p : Option Addr) (c : Nat) (a1 a2 : Addr) (w : World) (h : Ready w D p l c a1 a2) :
    Calls Ybaf.prog 32 #[.pointer (some ⟨D, 0, none⟩)] w fun e w' => e = .returned (.int .i64 v) ∧ Ready w' D (qFrom p c k) (l.drop k) (c - k) a1 a2 ∧ w.grownBy w' (some D) := by
  have hle : k ≤ l.length := by have := rd_used l; rw [hr] at this; exact this
  have HU := Hid.mk (uvarint_ok hr D p c w h.dec h.lies h.hc h.hcc)
  have H := Hid.mk h
  have hc := h.hc
  have hcc := h.hcc
  have hd : decide (((l.length - k : Nat) : Int) < (v : Int)) = false := by simp; omega
  clear h
  go_enter Ybaf.func32, Ybaf.ntmps32
  go_wp2_with (first | (go_at_call 43; refine HU.out.mono ?_; rintro e w2 ⟨rfl, hM⟩; have HR2 := Hid.mk (H.out.step hle hM); have HM := Hid.mk hM; have c0 := hM.1.c0; have c1 := hM.1.c1; clear hM))
  go_ret
  exact ⟨rfl, HR2.out, HM.out.2⟩

set_option maxHeartbeats 1000000 in
theorem count_short {l : List UInt8} {v k : Nat} (hr : rd l = (v, k, 0)) (hv : l.length - k < v) (D : Nat) (p : Option Addr) (c : Nat) (a1 a2 : Addr) (w : World) (h : Ready w D p l c a1 a2) :
    Calls Ybaf.prog 32 #[.pointer (some ⟨D, 0, none⟩)] w fun e w' => e = .returned (.int .i64 0) ∧ ∃ vb, Moved w w' D vb (eOf a1 a2 1) := by
  have hle : k ≤ l.length := by have := rd_used l; rw [hr] at this; exact this
  have hvb : v < 18446744073709551616 := by have := rd_lt l; rw [hr] at this; exact this
  have HU := Hid.mk (uvarint_ok hr D p c w h.dec h.lies h.hc h.hcc)
  have H := Hid.mk h
  have hc := h.hc
  have hcc := h.hcc
  have hd : decide (((l.length - k : Nat) : Int) < (v : Int)) = true := by simp; omega
  clear h
  go_enter Ybaf.func32, Ybaf.ntmps32
  go_wp2_with (first | (go_at_call 43; refine HU.out.mono ?_; rintro e w2 ⟨rfl, hM⟩; have HR2 := Hid.mk (H.out.step hle hM); have HM := Hid.mk hM; have c0 := hM.1.c0; have c1 := hM.1.c1; have f1 := hM.1.f1; have g1 := HR2.out.sent.1; clear hM))
  go_ret
  exact ⟨rfl, _, HM.out.trans (moved_1 HM.out.1 _)⟩

set_option maxHeartbeats 1000000 in
theorem count_bad {l : List UInt8} {v k st : Nat} (hr : rd l = (v, k, st)) (h0 : st ≠ 0) (D : Nat) (p : Option Addr) (c : Nat) (a1 a2 : Addr) (w : World) (h : Ready w D p l c a1 a2) :
    Calls Ybaf.prog 32 #[.pointer (some ⟨D, 0, none⟩)] w fun e w' => e = .returned (.int .i64 0) ∧ ∃ vb, Moved w w' D vb (eOf a1 a2 st) := by
  have HU := Hid.mk (uvarint_bad hr h0 D p c a1 a2 w h.dec h.lies h.sent)
  obtain ⟨kk, hkk⟩ := eOf_iface a1 a2 st
  have HK := Hid.mk hkk
  clear h hkk
  go_enter Ybaf.func32, Ybaf.ntmps32
  go_wp2_with (first | (go_at_call 43; refine HU.out.mono ?_; rintro e w2 ⟨rfl, hM⟩; have HM := Hid.mk hM; have c1 := hM.1.c1; rw [HK.out] at c1; clear hM))
  go_ret
  exact ⟨rfl, _, HM.out⟩
end Go.Proofs.YbulkefaeFmt
