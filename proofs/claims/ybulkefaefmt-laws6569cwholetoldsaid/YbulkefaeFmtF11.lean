/- LawS6569CWhole: readElements. -/
import Derived.Test.YbulkefaeFmtF10
namespace Go.Proofs.YbulkefaeFmt
open Go.RowKit Go.Extern.Stop Go.Stop Go.Extern
set_option linter.unusedVariables false

/-- How readElements ends. -/
def Ended (w w' : World) (D : Nat) (a1 a2 : Addr) (R : List ByteArray × List UInt8 × Nat) : Prop :=
  SetAt w' w.heap.size R.1 ∧ w.grownBy w' (some D) ∧ ((R.2.2 = 0 ∧ ∃ p c, Ready w' D p R.2.1 c a1 a2) ∨ (R.2.2 = 1 ∧ ∃ vb, Dec w' D vb (.iface 87 (.pointer (some a1)))) ∨ (R.2.2 = 2 ∧ ∃ vb k, Dec w' D vb (.iface 87 (.pointer (some k))) ∧ k ≠ a1 ∧ PlainAt w' k.block))

/-- The map and its variable, laid. -/
def laidMap (w : World) : World := (w.alloc (.map #[] 0)).alloc (.cells #[.map (some w.heap.size)] 33)
theorem laid_below (w : World) : Below w.heap.size w (laidMap w) :=
  ((Below.refl _ _).alloc (Nat.le_refl _) _).alloc (by simp) _
theorem laid_size (w : World) : (laidMap w).heap.size = w.heap.size + 2 := by simp [laidMap]
theorem laid_set (w : World) : SetAt (laidMap w) w.heap.size [] :=
  ⟨.map [], (World.ownsMap_made w Ybaf.prog 9 unitElem).alloc _, rfl, fun x => by simp [Maps.has_eq]⟩
theorem laid_var (w : World) : (laidMap w).cell? ⟨w.heap.size + 1, 0, none⟩ = some (.map (some w.heap.size)) := by
  have h : (laidMap w).heap[w.heap.size + 1]? = some (.cells #[.map (some w.heap.size)] 33) := by
    have := heap_alloc_new (w.alloc (.map #[] 0)) (.cells #[.map (some w.heap.size)] 33)
    simpa [laidMap] using this
  unfold World.cell?
  simp only [h]
  rfl

set_option maxHeartbeats 2000000 in
theorem elements_any (F : Interp) (w0 w : World) (D : Nat) (p : Option Addr) (l : List UInt8) (c : Nat) (a1 a2 : Addr) (hF : F.answers w0.tape) (hT : Lib.WhiteTab 1 w0) (h0 : Below w0.heap.size w0 w) (hD : w0.heap.size ≤ D)
    (hR : Ready w D p l c a1 a2) (hpW : 0 < l.length → ∀ x, p = some x → x.block < w.heap.size) (ha : a2 ≠ a1) (hp2 : PlainAt w0 a2.block) (ha1 : a1.block < w.heap.size) (hl : l.length ≤ 4398046511104) :
    Calls Ybaf.prog 10 #[.pointer (some ⟨D, 0, none⟩)] w fun e w' => e = .returned (.map (some w.heap.size)) ∧ Ended w w' D a1 a2 (model l) := by
  have hDw := hR.dec.lt
  have HE := Hid.mk (each_any F w0 (laidMap w) D w.heap.size (w.heap.size + 1) p l c a1 a2 hF hT (h0.trans ((laid_below w).mono h0.size)) hD hDw (by omega) (laid_var w) (laid_set w) (hR.keep (laid_below w)) (fun h0 x hx => by have := hpW h0 x hx; omega) ha hp2 (by rw [laid_size]; omega) hl)
  have HV := Hid.mk (laid_var w)
  have HB := Hid.mk (laid_below w)
  have hsz := laid_size w
  have hmk := fun w => run_makeMap (P := Ybaf.prog) 33 w
  unfold laidMap at HE
  clear hR hpW ha ha1 hF hT h0 hp2
  go_enter Ybaf.func10, Ybaf.ntmps10
  go_wp2_with (first | (go_at_call 18; refine HE.out.mono ?_; rintro e w' ⟨rfl, hR⟩; have HR := Hid.mk hR; have c1 := hR.2.1.cell HV.out (by simp; omega) (by simp); clear hR))
  go_ret
  refine ⟨rfl, HR.out.1, ?_, HR.out.2.2⟩
  have hf := HR.out.2.1
  have hb := HB.out
  exact ⟨hf.os.trans hb.os, hf.tape.trans hb.tape, hf.output.trans hb.output, Nat.le_trans hb.size hf.size, fun k hk hne => (hf.block k (Nat.lt_of_lt_of_le hk hb.size) (by simpa using hne) (by omega)).trans (hb.block k hk)⟩
end Go.Proofs.YbulkefaeFmt
