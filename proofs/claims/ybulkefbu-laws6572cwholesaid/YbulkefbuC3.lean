/- LawS6572CWhole: callOnce. -/
import Derived.Test.YbulkefbuC2
namespace Go.Proofs.Ybulkefbu.C
open Go.RowKit
set_option linter.unusedVariables false

/-- What both calls of callOnce read. -/
structure Base (w : World) (br bs bp bk bq : Nat) (ap ak sa : Nat) (n scap : Nat) (runs : Nat) (k : Int) (L E D : Nat → Int) (st : Nat → Nat) : Prop where
  cr : w.cell? ⟨br, 0, none⟩ = some (.int .i64 runs)
  cs : w.cell? ⟨bs, 0, none⟩ = some (.slice (some ⟨sa, 0, none⟩) runs scap)
  cp : w.cell? ⟨bp, 0, none⟩ = some (.slice (some ⟨ap, 0, none⟩) n n)
  ck : w.cell? ⟨bk, 0, none⟩ = some (.slice (some ⟨ak, 0, none⟩) n n)
  cq : w.cell? ⟨bq, 0, none⟩ = some (.int .i64 k)
  pairs : ∀ i, i < n → Pair w ap i (L i) (E i) (D i)
  keep : ∀ i, i < n → Pair w ak i (L i) (E i) (D i)
  starts : ∀ r, r < runs → w.cell? ⟨sa, r, none⟩ = some (.int .i64 (st r))
  lap : ap < w.heap.size
  lak : ak < w.heap.size
  lsa : sa < w.heap.size

theorem cell_keep {w w' : World} (hb : Below w.heap.size w w') {p : Addr} {v : Value} (h : w.cell? p = some v) : w'.cell? p = some v := by
  rw [hb.cell (World.block_lt_of_cell? w p h), h]

theorem Base.env {w w' : World} {br bs bp bk bq ap ak sa n scap runs : Nat} {k : Int} {L E D : Nat → Int} {st : Nat → Nat} (h : Base w br bs bp bk bq ap ak sa n scap runs k L E D st) (hb : Below w.heap.size w w') {bf fr : Nat}
    (cf : w'.cell? ⟨bf, 0, none⟩ = some (.int .i64 fr)) : Env w' bf br bs bp bk bq ap ak sa n scap fr runs k L E D st where
  cf := cf
  cr := cell_keep hb h.cr
  cs := cell_keep hb h.cs
  cp := cell_keep hb h.cp
  ck := cell_keep hb h.ck
  cq := cell_keep hb h.cq
  pairs := fun i hi => ⟨cell_keep hb (h.pairs i hi).1, cell_keep hb (h.pairs i hi).2.1, cell_keep hb (h.pairs i hi).2.2⟩
  keep := fun i hi => ⟨cell_keep hb (h.keep i hi).1, cell_keep hb (h.keep i hi).2.1, cell_keep hb (h.keep i hi).2.2⟩
  starts := fun r hr => cell_keep hb (h.starts r hr)

/-- None of the blocks that both calls read is x. -/
structure Off8 (br bs bp bk bq ap ak sa : Nat) (x : Nat) : Prop where
  r : br ≠ x
  s : bs ≠ x
  p : bp ≠ x
  k : bk ≠ x
  q : bq ≠ x
  ap : ap ≠ x
  ak : ak ≠ x
  sa : sa ≠ x

theorem Base.grown {w w' : World} {br bs bp bk bq ap ak sa n scap runs : Nat} {k : Int} {L E D : Nat → Int} {st : Nat → Nat} (h : Base w br bs bp bk bq ap ak sa n scap runs k L E D st) {pb : Nat} (hg : w.grownBy w' (some pb)) (o : Off8 br bs bp bk bq ap ak sa pb) :
    Base w' br bs bp bk bq ap ak sa n scap runs k L E D st where
  cr := hg.cell h.cr (by simpa using o.r)
  cs := hg.cell h.cs (by simpa using o.s)
  cp := hg.cell h.cp (by simpa using o.p)
  ck := hg.cell h.ck (by simpa using o.k)
  cq := hg.cell h.cq (by simpa using o.q)
  pairs := fun i hi => ⟨hg.cell (h.pairs i hi).1 (by simpa using o.ap), hg.cell (h.pairs i hi).2.1 (by simpa using o.ap), hg.cell (h.pairs i hi).2.2 (by simpa using o.ap)⟩
  keep := fun i hi => ⟨hg.cell (h.keep i hi).1 (by simpa using o.ak), hg.cell (h.keep i hi).2.1 (by simpa using o.ak), hg.cell (h.keep i hi).2.2 (by simpa using o.ak)⟩
  starts := fun r hr => hg.cell (h.starts r hr) (by simpa using o.sa)
  lap := Nat.lt_of_lt_of_le h.lap hg.size
  lak := Nat.lt_of_lt_of_le h.lak hg.size
  lsa := Nat.lt_of_lt_of_le h.lsa hg.size

theorem Base.off {w : World} {br bs bp bk bq ap ak sa n scap runs : Nat} {k : Int} {L E D : Nat → Int} {st : Nat → Nat} (h : Base w br bs bp bk bq ap ak sa n scap runs k L E D st) {bf x : Nat} (hf : bf ≠ x) (hx : w.heap.size ≤ x) : Off bf br bs bp bk bq ap ak sa x := by
  have a1 := World.block_lt_of_cell? w _ h.cr
  have a2 := World.block_lt_of_cell? w _ h.cs
  have a3 := World.block_lt_of_cell? w _ h.cp
  have a4 := World.block_lt_of_cell? w _ h.ck
  have a5 := World.block_lt_of_cell? w _ h.cq
  have a6 := h.lap
  have a7 := h.lak
  have a8 := h.lsa
  simp only at a1 a2 a3 a4 a5
  exact ⟨hf, by omega, by omega, by omega, by omega, by omega, by omega, by omega, by omega⟩

theorem four_new (w : World) (fr : Nat) :
    Below w.heap.size w ((((w.alloc (.cells #[.int .i64 fr] 3)).alloc (.cells #[.int .i64 0] 3)).alloc (.cells #[.bool true] 4)).alloc (.cells #[.bool false] 4)) ∧
    ((((w.alloc (.cells #[.int .i64 fr] 3)).alloc (.cells #[.int .i64 0] 3)).alloc (.cells #[.bool true] 4)).alloc (.cells #[.bool false] 4)).cell? ⟨w.heap.size, 0, none⟩ = some (.int .i64 fr) ∧
    ((((w.alloc (.cells #[.int .i64 fr] 3)).alloc (.cells #[.int .i64 0] 3)).alloc (.cells #[.bool true] 4)).alloc (.cells #[.bool false] 4)).cell? ⟨w.heap.size + 1, 0, none⟩ = some (.int .i64 0) ∧
    ((((w.alloc (.cells #[.int .i64 fr] 3)).alloc (.cells #[.int .i64 0] 3)).alloc (.cells #[.bool true] 4)).alloc (.cells #[.bool false] 4)).cell? ⟨w.heap.size + 1 + 1, 0, none⟩ = some (.bool true) ∧
    ((((w.alloc (.cells #[.int .i64 fr] 3)).alloc (.cells #[.int .i64 0] 3)).alloc (.cells #[.bool true] 4)).alloc (.cells #[.bool false] 4)).cell? ⟨w.heap.size + 1 + 1 + 1, 0, none⟩ = some (.bool false) ∧
    ((((w.alloc (.cells #[.int .i64 fr] 3)).alloc (.cells #[.int .i64 0] 3)).alloc (.cells #[.bool true] 4)).alloc (.cells #[.bool false] 4)).frozen? ⟨w.heap.size + 1, 0, none⟩ = false ∧
    ((((w.alloc (.cells #[.int .i64 fr] 3)).alloc (.cells #[.int .i64 0] 3)).alloc (.cells #[.bool true] 4)).alloc (.cells #[.bool false] 4)).frozen? ⟨w.heap.size + 1 + 1 + 1, 0, none⟩ = false := by
  refine ⟨(((((Below.refl _ _).alloc (Nat.le_refl _) _).alloc (by simp) _ |>.alloc (by simp; omega) _).alloc (by simp; omega) _)), ?_, ?_, ?_, ?_, ?_, ?_⟩ <;> simp [go_sem]

set_option maxRecDepth 100000 in
set_option maxHeartbeats 2000000 in
theorem once_any (br bs bp bk bq ap ak sa n scap fr runs pb bz : Nat) (k : Int) (L E D : Nat → Int) (st : Nat → Nat) (v : Value) (w : World)
    (h : Base w br bs bp bk bq ap ak sa n scap runs k L E D st) (hR : Runs n runs L st)
    (cz : w.cell? ⟨bz, 0, none⟩ = some (.func (.func 20) #[] #[.pointer (some ⟨pb, 0, none⟩)])) (cv : w.cell? ⟨pb, 0, none⟩ = some v) (fp : w.frozen? ⟨pb, 0, none⟩ = false)
    (hn : n ≤ 1048576) (hfr : fr ≤ runs) (hsc : scap ≤ maxLen) (hrs : runs ≤ scap) (k0 : 0 ≤ k) (k1 : k ≤ 7) (hcur : Cur ap n runs st fr v) (op : Off8 br bs bp bk bq ap ak sa pb) (hzp : bz ≠ pb) :
    Calls Yba.prog 15 #[.int .i64 fr, .pointer (some ⟨bz, 0, none⟩), .pointer (some ⟨br, 0, none⟩), .pointer (some ⟨bs, 0, none⟩), .pointer (some ⟨bp, 0, none⟩), .pointer (some ⟨bk, 0, none⟩), .pointer (some ⟨bq, 0, none⟩)] w
      fun e w' => e = .returned (.tuple #[.int .i64 (groups runs fr k), .bool true]) ∧ (∃ v', w'.cell? ⟨pb, 0, none⟩ = some v' ∧ Cur ap n runs st (nextRun runs fr k) v') ∧ w'.frozen? ⟨pb, 0, none⟩ = false ∧ w.grownBy w' (some pb) := by
  have H := Hid.mk h
  have HR := Hid.mk hR
  have HC := Hid.mk hcur
  have OP := Hid.mk op
  clear h hR hcur op
  have hpl := World.block_lt_of_cell? w _ cv
  have hzl := World.block_lt_of_cell? w _ cz
  simp only at hpl hzl
  have cz4 : ∀ o1 o2 o3 o4, ((((w.alloc o1).alloc o2).alloc o3).alloc o4).cell? ⟨bz, 0, none⟩ = some (.func (.func 20) #[] #[.pointer (some ⟨pb, 0, none⟩)]) := fun o1 o2 o3 o4 =>
    cell_keep (w := w) ((((Below.refl _ _).alloc (Nat.le_refl _) _).alloc (by simp) _ |>.alloc (by simp; omega) _).alloc (by simp; omega) _) cz
  go_enter Yba.func15, Yba.ntmps15
  go_wp2_with fail
  obtain ⟨b4, q0, q1, q2, q3, z1, z3⟩ := four_new w fr
  have S0 := HC.out
  refine (seq_any (w.heap.size + 1 + 1 + 1) (w.heap.size + 1 + 1) w.heap.size (w.heap.size + 1) br bs bp bk bq ap ak sa n scap fr runs pb k L E D st v _ (H.out.env b4 q0) HR.out q3 q2 q1 (cell_keep b4 cv) z1 z3 (by rw [b4.frozen (p := ⟨pb, 0, none⟩) hpl]; exact fp) hn hfr hsc hrs k0 k1 HC.out
    (H.out.off (by omega) (by omega)) (H.out.off (by omega) (by omega)) ⟨by omega, OP.out.r, OP.out.s, OP.out.p, OP.out.k, OP.out.q, OP.out.ap, OP.out.ak, OP.out.sa⟩ (by omega) (by omega) (by omega) (by omega) (by omega) (by omega)).mono ?_
  rintro e w2 ⟨rfl, hg, ⟨v', hv', hcur'⟩, hfz, ho⟩
  have ro : w2.cell? ⟨w.heap.size + 1 + 1, 0, none⟩ = some (.bool true) := ho.cell q2 (by simp) (by simp) (by simp; omega)
  have HV := Hid.mk hv'
  have HO := Hid.mk ho
  have HC2 := Hid.mk hcur'
  have B4 := Hid.mk b4
  clear hv' ho hcur' b4 q0 q1 q2 q3
  generalize hgr : groups runs fr k = gr at *
  go_wp2
  go_quiet (fail)
  go_wp2
  go_ret2
  refine ⟨by rw [hgr]; rfl, ⟨v', by exact HV.out, HC2.out⟩, by exact hfz, ?_⟩
  have hb := B4.out
  have ho := HO.out
  exact ⟨ho.os.trans hb.os, ho.tape.trans hb.tape, ho.output.trans hb.output, by have := hb.size; have := ho.size; simp only [World.heap_drewN]; omega, fun i hi hne => (ho.block i (by omega) (by omega) (fun e => hne (by rw [e]))).trans (hb.block i hi)⟩
end Go.Proofs.Ybulkefbu.C
