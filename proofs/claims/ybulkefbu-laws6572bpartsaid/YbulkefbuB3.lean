/- LawS6572BPart: the parse closure and parseRows. -/
import Derived.Test.YbulkefbuB2
import Derived.Deep.AppendLies
import Derived.Laws.EntriesVeiled
namespace Go.Proofs.Ybulkefbu.B
open Go.RowKit
set_option linter.unusedVariables false

/-- A variable's box. -/
def Box (w : World) (b : Nat) (t : TypeId) (v : Value) : Prop := w.heap[b]? = some (.cells #[v] t (0, 0))
theorem Box.cell {w : World} {b : Nat} {t : TypeId} {v : Value} (h : Box w b t v) : w.cell? ⟨b, 0, none⟩ = some v := by unfold Box at h; simp [World.cell?, h]
theorem Box.frozen {w : World} {b : Nat} {t : TypeId} {v : Value} (h : Box w b t v) (o : Nat) : w.frozen? ⟨b, o, none⟩ = false := by unfold Box at h; simp [World.frozen?, h]
theorem Box.block {w w' : World} {b : Nat} {t : TypeId} {v : Value} (h : Box w b t v) (hb : w'.heap[b]? = w.heap[b]?) : Box w' b t v := hb.trans h
theorem Box.lt {w : World} {b : Nat} {t : TypeId} {v : Value} (h : Box w b t v) : b < w.heap.size := by
  unfold Box at h; obtain ⟨h, _⟩ := Array.getElem?_eq_some_iff.1 h; exact h

theorem one_new (w : World) (t : TypeId) (x : Value) : ∀ (j : Nat) (u : Value), ([x] : List Value)[j]? = some u → (w.alloc (.cells #[x] t)).cell? ((⟨w.heap.size, 0, none⟩ : Addr).add j) = some u := by
  intro j u h
  rcases j with _ | j
  · simp at h; subst h
    simp only [Addr.add, if_true]
    have : (w.alloc (.cells #[x] t)).heap[w.heap.size]? = some (.cells #[x] t) := heap_alloc_new w _
    unfold World.cell?
    rw [this]
    rfl
  · simp at h

/-- The log: its box, and the row that it owns from block S on. -/
structure Log (w : World) (bl S : Nat) (v : Value) (xs : List Value) : Prop where
  box : Box w bl 25 v
  own : w.ownsRow S 22 1 v xs.length xs
  apart : v.ownBlock ≠ some bl
  base : S ≤ w.heap.size
  lo : bl < S

/-- What one call of the closure leaves. -/
structure Logged (w w' : World) (bl : Nat) (v : Value) : Prop where
  os : w'.os = w.os
  tape : w'.tape = w.tape
  output : w'.output = w.output
  size : w.heap.size ≤ w'.heap.size
  block : ∀ k, k < w.heap.size → k ≠ bl → some k ≠ v.ownBlock → w'.heap[k]? = w.heap[k]?

theorem log_push {w : World} {bl S : Nat} {v : Value} {xs : List Value} (h : Log w bl S v xs) {x : Value} {g cap : Nat} {w1 : World}
    (hown : w1.ownsRow S 22 1 (.slice (some ⟨g, 0, none⟩) (xs.length + 1) cap) (xs.length + 1) (xs ++ [x]))
    (hgrow : (w.alloc (.cells #[x] 22)).grownBy w1 v.ownBlock) (hat : v.ownBlock = some g ∨ g = w.heap.size + 1) :
    Log (w1.setCell ⟨bl, 0, none⟩ (.slice (some ⟨g, 0, none⟩) (xs.length + 1) cap)) bl S (.slice (some ⟨g, 0, none⟩) (xs.length + 1) cap) (xs ++ [x]) ∧
    Logged w (w1.setCell ⟨bl, 0, none⟩ (.slice (some ⟨g, 0, none⟩) (xs.length + 1) cap)) bl v ∧ (v.ownBlock = some g ∨ w.heap.size ≤ g) := by
  have hbl := h.box.lt
  have hgb : g ≠ bl := by
    rcases hat with hat | hat
    · intro hh; exact h.apart (by rw [hat, hh])
    · omega
  have hb1 : Box w1 bl 25 v := by
    refine h.box.block ?_
    rw [hgrow.block bl (by simp; omega) (fun hh => h.apart hh.symm), Below.heap_alloc _ _ _ hbl]
  have hs1 := hgrow.size
  simp at hs1
  refine ⟨⟨?_, ?_, ?_, ?_, h.lo⟩, ⟨hgrow.os, hgrow.tape, hgrow.output, ?_, fun k hk hne hno => ?_⟩, ?_⟩
  · unfold Box at hb1 ⊢; simp [World.setCell, Array.getElem?_modify, hb1]
  · simp only [List.length_append, List.length_cons, List.length_nil]
    exact hown.kept (row := some bl) ⟨rfl, rfl, rfl, by simp [World.setCell], fun k _ hne => Below.heap_setCell _ _ _ _ (fun hh => hne (by rw [hh]))⟩ (Or.inr (by simpa [Value.ownBlock] using hgb))
  · simpa [Value.ownBlock] using hgb
  · have := h.base; simp [World.setCell]; omega
  · simp [World.setCell]; omega
  · rw [Below.heap_setCell _ _ _ _ (by simpa using hne), hgrow.block k (by simp; omega) hno, Below.heap_alloc _ _ _ hk]
  · rcases hat with hat | hat
    · exact Or.inl hat
    · exact Or.inr (by omega)

theorem log_box {w : World} {bl S : Nat} {v : Value} {xs : List Value} (h : Log w bl S v xs) {o : Obj} {w1 : World} (hgrow : (w.alloc o).grownBy w1 v.ownBlock) :
    w1.cell? ⟨bl, 0, none⟩ = some v ∧ w1.frozen? ⟨bl, 0, none⟩ = false := by
  have hbl := h.box.lt
  have hb1 : Box w1 bl 25 v := by
    refine h.box.block ?_
    rw [hgrow.block bl (by simp; omega) (fun hh => h.apart hh.symm), Below.heap_alloc _ _ _ hbl]
  exact ⟨hb1.cell, hb1.frozen 0⟩

theorem Logged.row {w w' : World} {bl S : Nat} {v : Value} {xs : List Value} (h : Log w bl S v xs) (hl : Logged w w' bl v) {q : Option Addr} {ss : List ByteArray} (hr : Row w q ss) (hq : 0 < ss.length → ∀ b o, q = some ⟨b, o, none⟩ → b < bl) : Row w' q ss := fun h0 => by
  obtain ⟨b, o, e, hc⟩ := hr h0
  have hb := hq h0 b o e
  have hbl := h.box.lt
  have hlo := h.lo
  refine ⟨b, o, e, fun j hj => ?_⟩
  rw [World.cell?_of_block (w := w) (a := ⟨b, o + j, none⟩) (hl.block b (by omega) (by omega) (fun hh => by have := (h.own.lt b hh.symm).1; omega))]
  exact hc j hj

set_option maxHeartbeats 2000000 in
theorem parse_any (q : Option Addr) (ss : List ByteArray) (c : Nat) (bl S : Nat) (v : Value) (xs : List Value) (w : World) (h : Log w bl S v xs) (hr : Row w q ss) (hq : 0 < ss.length → ∀ b o, q = some ⟨b, o, none⟩ → b < bl)
    (hl : ss.length ≤ 140737488355328) (hss : ∀ s ∈ ss, s.size ≤ maxLen) (hx : xs.length ≤ 5864062014804) :
    Calls Yba.prog 10 #[.slice q ss.length c, .pointer (some ⟨bl, 0, none⟩)] w fun e w' => e = .returned (.tuple #[.int .i64 (val ss), .nilIface]) ∧ ∃ v', Log w' bl S v' (xs ++ [.slice q ss.length c]) ∧ Logged w w' bl v ∧ (v'.ownBlock = v.ownBlock ∨ ∃ g, v'.ownBlock = some g ∧ w.heap.size ≤ g) := by
  obtain ⟨i3, hi3, hh3⟩ := Option.map_eq_some_iff.1 info22
  simp only [Prod.mk.injEq] at hh3
  obtain ⟨hz3, hs3, hy3⟩ := hh3
  have b2 := h.box.cell
  have z2 := h.box.frozen
  have H := Hid.mk h
  have HR := Hid.mk hr
  have HQ := Hid.mk hq
  clear h hr hq
  go_enter Yba.func10, Yba.ntmps10
  go_wp2_with (at_builtin; refine wpList_append_lies _ rfl _ _ _ rfl S 22 i3 (.slice none 0 0) 1 24 Yba.underlying25 hi3 hz3 hs3 hy3 rfl (by omega) v xs.length xs (by rfl) (by exact (H.out.own.alloc _)) _ 1 1 [.slice q ss.length c] (by rfl) rfl (one_new _ _ _) (by simp [Value.oneCell']) (by omega) (by unfold maxLen; omega) (by omega) (by have := H.out.base; simp; omega) (w.heap.size + 1) (by simp) ?_; intro g' cap' w1 hown hgrow hat hlt1; obtain ⟨c5, z5⟩ := log_box H.out hgrow)
  obtain ⟨hL, hLd, hB⟩ := log_push H.out hown hgrow hat
  have HL := Hid.mk hL
  have HLd := Hid.mk hLd
  have HB := Hid.mk hB
  clear hL hLd hB hown hgrow hat
  refine (val_any q ss c _ (Logged.row H.out HLd.out HR.out HQ.out) hl hss).mono ?_
  rintro e w' ⟨rfl, hw⟩
  rw [hw]
  clear hw
  go_wp2
  go_ret2
  exact ⟨rfl, _, HL.out, HLd.out, HB.out.elim (fun h => Or.inl h.symm) (fun h => Or.inr ⟨g', rfl, h⟩)⟩

def zints (n : Nat) : Array Value := madeCells #[.int .i64 0] n
theorem zints_size (n : Nat) : (zints n).size = n := size_madeCells _ _
theorem info3 : (Yba.prog.info? 3).map (fun i => (i.zero, i.size, i.bytes)) = some (some (.int .i64 0), 1, 8) := by kernel_rfl
theorem mk33 (n : Nat) (hn : n ≤ 5864062014805) (w : World) : (Instr.makeSlice 33 (.int .i64 n) (.int .i64 n)).run Yba.prog w = .ok (.slice (some ⟨w.heap.size, 0, none⟩) n n) (w.alloc (.cells (zints n) 3)) := by
  obtain ⟨i, h1, h2⟩ := Option.map_eq_some_iff.1 info3
  simp only [Prod.mk.injEq] at h2
  obtain ⟨h2, h3, h4⟩ := h2
  have := run_make (P := Yba.prog) w 33 3 i _ Yba.underlying33 h1 h2 .i64 .i64 n n (by omega) (Int.le_refl _) (by rw [h4]; omega) (by omega)
  rw [this, h3]
  simp [zints, Value.cells]

/-- Behind the k-th round of parseRows; V: the table's rows as they stand in memory. -/
structure Parsed (w0 w : World) (bl n k : Nat) (V : Nat → Value) (R : Nat → List ByteArray) (v : Value) : Prop where
  log : Log w bl (w0.heap.size + 1) v ((List.range k).map V)
  ints : ∃ cur : Array Value, w.heap[w0.heap.size]? = some (.cells cur 3 (0, 0)) ∧ cur.size = n ∧ ∀ i, i < k → cur[i]? = some (.int .i64 (val (R i)))
  below : Below bl w0 w

theorem parsed_step {w0 w w2 : World} {bl n k : Nat} {V : Nat → Value} {R : Nat → List ByteArray} {v v' : Value} (h : Parsed w0 w bl n k V R v) (hk : k < n) (hL : Log w2 bl (w0.heap.size + 1) v' ((List.range k).map V ++ [V k])) (hLd : Logged w w2 bl v)
    (hb : bl < w0.heap.size) : Parsed w0 (w2.setCell ⟨w0.heap.size, k, none⟩ (.int .i64 (val (R k)))) bl n (k + 1) V R v' ∧ (∃ u, w2.cell? ⟨w0.heap.size, k, none⟩ = some u) ∧ w2.frozen? ⟨w0.heap.size, k, none⟩ = false := by
  obtain ⟨cur, h1, h2, h3⟩ := h.ints
  have hlt : w0.heap.size < w.heap.size := by obtain ⟨x, _⟩ := Array.getElem?_eq_some_iff.1 h1; exact x
  have hb2 : w2.heap[w0.heap.size]? = some (.cells cur 3 (0, 0)) := by
    rw [hLd.block _ hlt (by omega) (fun hh => by have := (h.log.own.lt _ hh.symm).1; omega), h1]
  have hset : (w2.setCell ⟨w0.heap.size, k, none⟩ (.int .i64 (val (R k)))).heap[bl]? = w2.heap[bl]? := Below.heap_setCell _ _ _ _ (by simp; omega)
  refine ⟨⟨⟨hL.box.block hset, ?_, hL.apart, by have := hL.base; simpa [World.setCell] using this, hL.lo⟩, ⟨cur.setIfInBounds k (.int .i64 (val (R k))), ?_, by simpa using h2, fun i hi => ?_⟩, ?_⟩, ⟨cur[k], ?_⟩, ?_⟩
  · have e : (List.range (k + 1)).map V = (List.range k).map V ++ [V k] := by rw [List.range_succ]; simp
    rw [e]
    exact hL.own.kept (row := some w0.heap.size) ⟨rfl, rfl, rfl, by simp [World.setCell], fun j _ hne => Below.heap_setCell _ _ _ _ (fun hh => hne (by rw [hh]))⟩ (by
      cases hv : v'.ownBlock with
      | none => exact Or.inl rfl
      | some g => have := (hL.own.lt g hv).1; exact Or.inr (by simp; omega))
  · simp [World.setCell, Array.getElem?_modify, hb2]
  · by_cases e : i = k
    · subst e; simp [h2, hk]
    · rw [Array.getElem?_setIfInBounds_ne (by omega)]; exact h3 i (by omega)
  · refine Below.setCell (h.below.trans ⟨hLd.os, hLd.tape, hLd.output, hLd.size, fun j hj => ?_⟩) (by simp; omega) _
    exact hLd.block j (by omega) (by omega) (fun hh => by have := (h.log.own.lt _ hh.symm).1; omega)
  · simp [World.cell?, hb2, h2, hk]
  · simp [World.frozen?, hb2]

theorem parsed_start {w : World} {bl n : Nat} (h : Box w bl 25 (.slice none 0 0)) (V : Nat → Value) (R : Nat → List ByteArray) : Parsed w (w.alloc (.cells (zints n) 3)) bl n 0 V R (.slice none 0 0) where
  log := ⟨h.block (Below.heap_alloc _ _ _ h.lt), World.ownsRow_nil _ _ _ _, by simp [Value.ownBlock], by simp, by have := h.lt; omega⟩
  ints := ⟨zints n, heap_alloc_new w _, zints_size n, fun i hi => absurd hi (Nat.not_lt_zero i)⟩
  below := (Below.refl _ _).alloc (by have := h.lt; omega) _

set_option maxHeartbeats 2000000 in
theorem parseRows_any (bt bl : Nat) (p : Option Addr) (n cp : Nat) (b o : Nat) (Q : Nat → Option Addr) (C : Nat → Nat) (R : Nat → List ByteArray) (w : World)
    (ct : w.cell? ⟨bt, 2, none⟩ = some (.slice p n cp)) (htl : bt < bl)
    (hp : 0 < n → p = some ⟨b, o, none⟩) (hbb : b < bl) (hrow : ∀ i, i < n → w.cell? ⟨b, o + i, none⟩ = some (.slice (Q i) (R i).length (C i)) ∧ Row w (Q i) (R i) ∧ (0 < (R i).length → ∀ b' o', Q i = some ⟨b', o', none⟩ → b' < bl))
    (hbox : Box w bl 25 (.slice none 0 0)) (hn : n ≤ 5864062014805) (hl : ∀ i, i < n → (R i).length ≤ 140737488355328) (hss : ∀ i, i < n → ∀ s ∈ R i, s.size ≤ maxLen) :
    Calls Yba.prog 9 #[.pointer (some ⟨bt, 0, none⟩), .func (.func 10) #[] #[.pointer (some ⟨bl, 0, none⟩)]] w
      fun e w' => e = .returned (.tuple #[.slice (some ⟨w.heap.size, 0, none⟩) n n, .nilIface]) ∧ ∃ v, Parsed w w' bl n n (fun i => .slice (Q i) (R i).length (C i)) R v := by
  have hmk := mk33 n hn
  have HP := Hid.mk hp
  have HROW := Hid.mk hrow
  have HBOX := Hid.mk hbox
  have HL := Hid.mk hl
  have HSS := Hid.mk hss
  have hbll := hbox.lt
  clear hp hrow hbox hl hss
  have ct2 : ∀ o, (w.alloc o).cell? ⟨bt, 2, none⟩ = some (.slice p n cp) := fun o => cell_keep ((Below.refl _ _).alloc (Nat.le_refl _) _) ct
  go_enter Yba.func9, Yba.ntmps9
  go_wp2
  go_loopw [21] (fun i wr => ∃ (k : Nat) (v : Value), k ≤ n ∧ i = .int .i64 k ∧ Parsed w wr bl n k (fun i => .slice (Q i) (R i).length (C i)) R v) (fun i _ => n - (intOf i).toNat)
  case atStart => exact ⟨0, .slice none 0 0, Nat.zero_le _, rfl, parsed_start HBOX.out _ _⟩
  case round =>
    obtain ⟨k, v, hk, rfl, hP⟩ := hrel
    by_cases hlt : k < n
    · have hpp := HP.out (by omega)
      subst hpp
      obtain ⟨c1, r1, q1⟩ := HROW.out k hlt
      replace c1 : wr.cell? ⟨b, o + k, none⟩ = some (.slice (Q k) (R k).length (C k)) := by
        rw [hP.below.cell (p := ⟨b, o + k, none⟩) hbb]; exact c1
      have r1' : Row wr (Q k) (R k) := fun h0 => by
        obtain ⟨b', o', e, hc⟩ := r1 h0
        exact ⟨b', o', e, fun j hj => by rw [hP.below.cell (p := ⟨b', o' + j, none⟩) (q1 h0 b' o' e)]; exact hc j hj⟩
      have hkI : (k : Int) < (n : Int) := by omega
      have HPP := Hid.mk hP
      have HQ := Hid.mk q1
      have HR1 := Hid.mk r1'
      clear hP r1 r1' q1 ct2 hmk
      go_wp2_with fail
      refine (parse_any (Q k) (R k) (C k) bl (w.heap.size + 1) v _ wr HPP.out.log HR1.out HQ.out (HL.out k hlt) (HSS.out k hlt) (by simp; omega)).mono ?_
      rintro e w2 ⟨rfl, v', hL, hLd, hown⟩
      obtain ⟨hP2, ⟨u, hu⟩, hz⟩ := parsed_step HPP.out hlt hL hLd hbll
      have HP2 := Hid.mk hP2
      clear hP2 hL hLd hown
      go_wp2
      go_roundw
      case rel => exact ⟨k + 1, v', by omega, by go_num, HP2.out⟩
      case measure => simp [intOf]; omega
    · obtain rfl : k = n := by omega
      have HPP := Hid.mk hP
      clear hP
      go_wp2
      go_ret2
      exact ⟨rfl, v, HPP.out⟩
end Go.Proofs.Ybulkefbu.B
