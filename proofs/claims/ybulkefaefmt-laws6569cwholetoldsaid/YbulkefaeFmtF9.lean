/- LawS6569CWhole: the set; the elements read into it. -/
import Derived.Test.YbulkefaeFmtF8
import Derived.Test.YbulkefaeFmtF4
import Derived.Maps.OwnSet
namespace Go.Proofs.YbulkefaeFmt
open Go.RowKit Go.Extern.Stop Go.Stop Go.Extern
set_option linter.unusedVariables false

theorem key9 : Maps.Keyed Ybaf.prog 9 := Maps.string_keyed Ybaf.underlying9

/-- Block M is the set of es. -/
def SetAt (w : World) (M : Nat) (es : List ByteArray) : Prop := ∃ D : DataW Unit, w.ownsMap Ybaf.prog 9 unitElem M es.length D ∧ Maps.size D = es.length ∧ ∀ x : ByteArray, Maps.has D (.string x.data.toList) = true ↔ x ∈ es

theorem bytes_inj {x y : ByteArray} (h : x.data.toList = y.data.toList) : x = y := by
  obtain ⟨⟨a⟩⟩ := x
  obtain ⟨⟨b⟩⟩ := y
  simp at h
  rw [h]
theorem SetAt.keep {w w' : World} {M : Nat} {es : List ByteArray} {row : Option Nat} (h : SetAt w M es) (hg : w.grownBy w' row) (hne : row ≠ some M) : SetAt w' M es := by
  obtain ⟨D, ⟨e1, cl, hb, r⟩, h2, h3⟩ := h
  exact ⟨D, ⟨e1, cl, by rw [hg.block M (Array.getElem?_eq_some_iff.1 hb).1 (fun e => hne e.symm)]; exact hb, r⟩, h2, h3⟩
theorem SetAt.lt {w : World} {M : Nat} {es : List ByteArray} (h : SetAt w M es) : M < w.heap.size := by
  obtain ⟨D, ⟨e1, cl, hb, r⟩, h2, h3⟩ := h
  exact (Array.getElem?_eq_some_iff.1 hb).1

theorem und33 : Ybaf.prog.underlying 33 = some (.map 9 39) := Ybaf.underlying33

set_option maxHeartbeats 1000000 in
theorem take_any (x : ByteArray) (V M : Nat) (es : List ByteArray) (w : World) (hv : w.cell? ⟨V, 0, none⟩ = some (.map (some M))) (h : SetAt w M es) (hx : x ∉ es) (hl : es.length ≤ 4398046511104) (hxs : x.size ≤ 4398046511104) :
    Calls Ybaf.prog 19 #[.string x, .pointer (some ⟨V, 0, none⟩)] w fun e w' => e = .returned (.tuple #[]) ∧ SetAt w' M (es ++ [x]) ∧ w.grownBy w' (some M) := by
  obtain ⟨D, hD, hsz, hhas⟩ := h
  have HD := Hid.mk hD
  have hkey : keyOf Ybaf.prog 9 (.string x) = some (.string x.data.toList) := WideMaps.keyOf_string_mk Ybaf.underlying9 (by unfold maxLen; omega)
  have HS : Hid (∀ w', w'.ownsMap Ybaf.prog 9 (unitElem (H := Unit)) M (es.length + 1) (D.put (.string x.data.toList) (.agg [])) → SetAt w' M (es ++ [x])) := by
    intro w' hw
    refine ⟨_, by rw [List.length_append]; exact hw, ?_, fun y => ?_⟩
    · rw [Maps.size_put (hD.tidy key9)]
      rw [if_neg (by rw [hhas]; exact hx), hsz]
      simp
    · by_cases e : y = x
      · subst e
        simp [Maps.has_put_same hD.isMap (k := .string y.data.toList) trivial]
      · rw [Maps.has_put_other (fun h => e (bytes_inj (by simpa using h)))]
        rw [hhas]
        simp [e]
  clear hD hsz hhas
  go_enter Ybaf.func19, Ybaf.ntmps19
  go_wp2_with (at_mapUpdate; refine wpList_mapUpdate_in _ rfl _ _ _ 33 rfl 9 39 key9 und33 unitElem M es.length D (by rfl) HD.out (by unfold maxLen; omega) (.string x) (.agg #[]) (.string x.data.toList) (by rfl) (by rfl) hkey (.agg []) [] unitElem_mk ?_; intro w1 hown hturn)
  go_end0
  exact ⟨rfl, HS.out _ hown, hturn.grown⟩

/-- Only the blocks D and M of the old ones may have turned. -/
structure Fr (w w' : World) (D M : Nat) : Prop where
  os : w'.os = w.os
  tape : w'.tape = w.tape
  output : w'.output = w.output
  size : w.heap.size ≤ w'.heap.size
  block : ∀ k, k < w.heap.size → k ≠ D → k ≠ M → w'.heap[k]? = w.heap[k]?
theorem Fr.refl (w : World) (D M : Nat) : Fr w w D M := ⟨rfl, rfl, rfl, Nat.le_refl _, fun _ _ _ _ => rfl⟩
theorem Fr.trans {a b c : World} {D M : Nat} (h : Fr a b D M) (k : Fr b c D M) : Fr a c D M :=
  ⟨k.os.trans h.os, k.tape.trans h.tape, k.output.trans h.output, Nat.le_trans h.size k.size, fun i hi h1 h2 => (k.block i (Nat.lt_of_lt_of_le hi h.size) h1 h2).trans (h.block i hi h1 h2)⟩
theorem Fr.ofD {a b : World} {D : Nat} (M : Nat) (h : a.grownBy b (some D)) : Fr a b D M := ⟨h.os, h.tape, h.output, h.size, fun i hi h1 _ => h.block i hi (by simpa using h1)⟩
theorem Fr.ofM {a b : World} {M : Nat} (D : Nat) (h : a.grownBy b (some M)) : Fr a b D M := ⟨h.os, h.tape, h.output, h.size, fun i hi _ h2 => h.block i hi (by simpa using h2)⟩
theorem Fr.ofB {a b : World} (D M : Nat) (h : Below a.heap.size a b) : Fr a b D M := ⟨h.os, h.tape, h.output, h.size, fun i hi _ _ => h.block i hi⟩
theorem Fr.cell {a b : World} {D M : Nat} (h : Fr a b D M) {q : Addr} {v : Value} (hc : a.cell? q = some v) (h1 : q.block ≠ D) (h2 : q.block ≠ M) : b.cell? q = some v :=
  (World.cell?_of_block (h.block q.block (World.block_lt_of_cell? a q hc) h1 h2)).trans hc
theorem Fr.below {w0 a b : World} {D M : Nat} (h0 : Below w0.heap.size w0 a) (h : Fr a b D M) (h1 : w0.heap.size ≤ D) (h2 : w0.heap.size ≤ M) : Below w0.heap.size w0 b :=
  h0.trans ⟨h.os, h.tape, h.output, h.size, fun k hk => h.block k (Nat.lt_of_lt_of_le hk h0.size) (by omega) (by omega)⟩
theorem Fr.bytes {a b : World} {D M : Nat} (h : Fr a b D M) {p : Option Addr} {l : List UInt8} (hb : Bytes a p l) (h1 : 0 < l.length → ∀ x, p = some x → x.block ≠ D) (h2 : 0 < l.length → ∀ x, p = some x → x.block ≠ M) : Bytes b p l := fun h0 => by
  obtain ⟨g, o, e, hc⟩ := hb h0
  exact ⟨g, o, e, fun j hj => h.cell (hc j hj) (show g ≠ D from h1 h0 _ e) (show g ≠ M from h2 h0 _ e)⟩
theorem grown_of_below {a b : World} (h : Below a.heap.size a b) : a.grownBy b none := ⟨h.os, h.tape, h.output, h.size, fun k hk _ => h.block k hk⟩

theorem Dec.keep {a b : World} {D : Nat} {vb ve : Value} (h : Dec a D vb ve) (hb : Below a.heap.size a b) : Dec b D vb ve := by
  unfold Dec at h ⊢
  rw [hb.block D (Array.getElem?_eq_some_iff.1 h).1, h]
theorem Dec.grown {a b : World} {D M : Nat} {vb ve : Value} (h : Dec a D vb ve) (hb : a.grownBy b (some M)) (hne : D ≠ M) : Dec b D vb ve := by
  unfold Dec at h ⊢
  rw [hb.block D (Array.getElem?_eq_some_iff.1 h).1 (by simpa using hne), h]
theorem Ready.keep {a b : World} {D : Nat} {p : Option Addr} {l : List UInt8} {c : Nat} {a1 a2 : Addr} (h : Ready a D p l c a1 a2) (hb : Below a.heap.size a b) : Ready b D p l c a1 a2 :=
  ⟨h.dec.keep hb, h.lies.keep hb, h.hc, h.hcc, h.pn, h.pD, ⟨by rw [hb.cell (World.block_lt_of_cell? a _ h.sent.1), h.sent.1], by rw [hb.cell (World.block_lt_of_cell? a _ h.sent.2), h.sent.2]⟩, h.hD⟩
theorem Ready.grown {a b : World} {D M : Nat} {p : Option Addr} {l : List UInt8} {c : Nat} {a1 a2 : Addr} (h : Ready a D p l c a1 a2) (hb : a.grownBy b (some M)) (hM : D < M) (hpM : 0 < l.length → ∀ x, p = some x → x.block ≠ M) : Ready b D p l c a1 a2 :=
  ⟨h.dec.grown hb (by omega), grown_bytes hb h.lies hpM, h.hc, h.hcc, h.pn, h.pD, sent_grown h.sent hb (by have := h.hD; omega), h.hD⟩

/-- How the reading ends. -/
def Read (w w' : World) (D M : Nat) (a1 a2 : Addr) (R : List ByteArray × List UInt8 × Nat) : Prop :=
  SetAt w' M R.1 ∧ Fr w w' D M ∧ ((R.2.2 = 0 ∧ ∃ p c, Ready w' D p R.2.1 c a1 a2) ∨ (R.2.2 = 1 ∧ ∃ vb, Dec w' D vb (.iface 87 (.pointer (some a1)))) ∨ (R.2.2 = 2 ∧ ∃ vb k, Dec w' D vb (.iface 87 (.pointer (some k))) ∧ k ≠ a1 ∧ PlainAt w' k.block))

theorem read_fault {w wr w2 : World} {D M : Nat} {a1 a2 : Addr} {R : List ByteArray × List UInt8 × Nat} {es : List ByteArray} {cls : Nat} {vb : Value} (hS : SetAt wr M es) (hF : Fr w wr D M) (hm : Moved wr w2 D vb (eOf a1 a2 cls)) (hc : cls = 1 ∨ cls = 2) (ha : a2 ≠ a1) (hp2 : PlainAt w2 a2.block) (hDM : D ≠ M)
    (hR : R = (es, [], cls)) : Read w w2 D M a1 a2 R := by
  subst hR
  refine ⟨hS.keep hm.2 (by simpa using hDM), hF.trans (Fr.ofD M hm.2), ?_⟩
  rcases hc with rfl | rfl
  · exact Or.inr (Or.inl ⟨rfl, vb, hm.1⟩)
  · exact Or.inr (Or.inr ⟨rfl, vb, a2, hm.1, ha, hp2⟩)
theorem read_new {w wr w3 w4 : World} {D M k : Nat} {a1 a2 : Addr} {R : List ByteArray × List UInt8 × Nat} {es : List ByteArray} {vb : Value} (hS : SetAt w3 M es) (hF : Fr w w3 D M) (hm : Moved w3 w4 D vb (.iface 87 (.pointer (some ⟨k, 0, none⟩)))) (hk : w.heap.size ≤ k) (hpl : PlainAt w3 k) (hDw : D < w.heap.size) (ha : a1.block < w.heap.size) (hDM : D ≠ M)
    (hR : R = (es, [], 2)) : Read w w4 D M a1 a2 R := by
  subst hR
  refine ⟨hS.keep hm.2 (by simpa using hDM), hF.trans (Fr.ofD M hm.2), Or.inr (Or.inr ⟨rfl, vb, _, hm.1, fun e => ?_, hpl.same (hm.2.block k hpl.lt (by simp; omega))⟩)⟩
  rw [← e] at ha
  exact absurd ha (by simp; omega)

theorem leB_trans {x y z : ByteArray} (h1 : leB x y = true) (h2 : leB z y = false) : leB x z = true := by
  unfold leB at h1 h2 ⊢
  simp only [Go.Proofs.bytesLess_eq] at h1 h2 ⊢
  simp only [Bool.or_eq_true, Bool.or_eq_false_iff, decide_eq_true_eq, decide_eq_false_iff_not, beq_iff_eq, beq_eq_false_iff_ne, ne_eq] at h1 h2 ⊢
  have hyz : y.toList < z.toList := by
    rcases Std.lt_trichotomy y.toList z.toList with h | h | h
    · exact h
    · exact absurd h.symm h2.2
    · exact absurd h h2.1
  rcases h1 with h1 | h1
  · exact Or.inl (List.lt_trans h1 hyz)
  · rw [h1]; exact Or.inl hyz
theorem leB_refl (x : ByteArray) : leB x x = true := by simp [leB]
end Go.Proofs.YbulkefaeFmt
