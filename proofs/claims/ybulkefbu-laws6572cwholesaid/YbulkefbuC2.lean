/- LawS6572CWhole: the iterator that byLine hands back, driven by yield. -/
import Derived.Test.YbulkefbuC1
import Derived.Deep.LoopGhost
namespace Go.Proofs.Ybulkefbu.C
open Go.RowKit
set_option linter.unusedVariables false

/-- Of all blocks but three the world is as it was. -/
structure Only (a b c : Nat) (w w' : World) : Prop where
  os : w'.os = w.os
  tape : w'.tape = w.tape
  output : w'.output = w.output
  size : w'.heap.size = w.heap.size
  block : ∀ k, k ≠ a → k ≠ b → k ≠ c → w'.heap[k]? = w.heap[k]?

theorem Only.refl (a b c : Nat) (w : World) : Only a b c w w := ⟨rfl, rfl, rfl, rfl, fun _ _ _ _ => rfl⟩
theorem Only.trans {a b c : Nat} {u v w : World} (h : Only a b c u v) (k : Only a b c v w) : Only a b c u w :=
  ⟨k.os.trans h.os, k.tape.trans h.tape, k.output.trans h.output, k.size.trans h.size, fun i h1 h2 h3 => (k.block i h1 h2 h3).trans (h.block i h1 h2 h3)⟩
theorem Only.drewN {a b c : Nat} {u v : World} (h : Only a b c u v) (n : Nat) : Only a b c u (v.drewN n) := ⟨h.os, h.tape, h.output, h.size, h.block⟩
theorem Only.set {a b c : Nat} {u v : World} (h : Only a b c u v) (g o : Nat) (x : Value) (hg : g = a ∨ g = b ∨ g = c) : Only a b c u (v.setCell ⟨g, o, none⟩ x) :=
  ⟨h.os, h.tape, h.output, by simpa [World.setCell] using h.size, fun i h1 h2 h3 => by
    rw [Below.heap_setCell _ _ _ _ (by simp; omega)]; exact h.block i h1 h2 h3⟩
theorem Only.cell {a b c : Nat} {w w' : World} (h : Only a b c w w') {p : Addr} {v : Value} (hc : w.cell? p = some v) (h1 : p.block ≠ a) (h2 : p.block ≠ b) (h3 : p.block ≠ c) : w'.cell? p = some v :=
  (World.cell?_of_block (h.block p.block h1 h2 h3)).trans hc

/-- No block that the environment reads is one of three. -/
structure Off (bf br bs bp bk bq ap ak sa : Nat) (x : Nat) : Prop where
  f : bf ≠ x
  r : br ≠ x
  s : bs ≠ x
  p : bp ≠ x
  k : bk ≠ x
  q : bq ≠ x
  ap : ap ≠ x
  ak : ak ≠ x
  sa : sa ≠ x

theorem Env.only {w w' : World} {bf br bs bp bk bq ap ak sa n scap fr runs : Nat} {k : Int} {L E D : Nat → Int} {st : Nat → Nat} (h : Env w bf br bs bp bk bq ap ak sa n scap fr runs k L E D st) {a b c : Nat}
    (ho : Only a b c w w') (oa : Off bf br bs bp bk bq ap ak sa a) (ob : Off bf br bs bp bk bq ap ak sa b) (oc : Off bf br bs bp bk bq ap ak sa c) : Env w' bf br bs bp bk bq ap ak sa n scap fr runs k L E D st where
  cf := ho.cell h.cf oa.f ob.f oc.f
  cr := ho.cell h.cr oa.r ob.r oc.r
  cs := ho.cell h.cs oa.s ob.s oc.s
  cp := ho.cell h.cp oa.p ob.p oc.p
  ck := ho.cell h.ck oa.k ob.k oc.k
  cq := ho.cell h.cq oa.q ob.q oc.q
  pairs := fun i hi => ⟨ho.cell (h.pairs i hi).1 oa.ap ob.ap oc.ap, ho.cell (h.pairs i hi).2.1 oa.ap ob.ap oc.ap, ho.cell (h.pairs i hi).2.2 oa.ap ob.ap oc.ap⟩
  keep := fun i hi => ⟨ho.cell (h.keep i hi).1 oa.ak ob.ak oc.ak, ho.cell (h.keep i hi).2.1 oa.ak ob.ak oc.ak, ho.cell (h.keep i hi).2.2 oa.ak ob.ak oc.ak⟩
  starts := fun r hr => ho.cell (h.starts r hr) oa.sa ob.sa oc.sa

theorem Env.drewN {w : World} {bf br bs bp bk bq ap ak sa n scap fr runs : Nat} {k : Int} {L E D : Nat → Int} {st : Nat → Nat} (h : Env w bf br bs bp bk bq ap ak sa n scap fr runs k L E D st) (q : Nat) : Env (w.drewN q) bf br bs bp bk bq ap ak sa n scap fr runs k L E D st :=
  ⟨h.cf, h.cr, h.cs, h.cp, h.ck, h.cq, h.pairs, h.keep, h.starts⟩

/-- Where run r ends. -/
def fin (st : Nat → Nat) (runs n r : Nat) : Nat := if r + 1 < runs then st (r + 1) else n

/-- st names the first places of the runs of equal lines. -/
structure Runs (n runs : Nat) (L : Nat → Int) (st : Nat → Nat) : Prop where
  none : runs = 0 → n = 0
  zero : 0 < runs → st 0 = 0
  pos : ∀ r, r < runs → st r < fin st runs n r
  le : ∀ r, r < runs → fin st runs n r ≤ n
  same : ∀ r, r < runs → ∀ i, st r ≤ i → i < fin st runs n r → L i = L (st r)
  diff : ∀ r, r + 1 < runs → L (st (r + 1)) ≠ L (st r)
  runs_le : runs ≤ n

/-- What the iterator's own variable holds when run r is next. -/
def Cur (ap n runs : Nat) (st : Nat → Nat) (r : Nat) (v : Value) : Prop :=
  (r < runs ∧ v = .slice (some ⟨ap, st r * 3, none⟩) (n - st r) (n - st r)) ∨ (r = runs ∧ ∃ p, v = .slice p 0 0)

/-- How many groups a call yields, and which run is next behind it. -/
def groups (runs fr : Nat) (k : Int) : Nat := if 0 < k ∧ k ≤ runs - fr then k.toNat else runs - fr
def nextRun (runs fr : Nat) (k : Int) : Nat := if 0 < k ∧ k ≤ runs - fr then fr + k.toNat - 1 else runs

theorem cell_same {w : World} {b : Nat} {u v : Value} (h : w.cell? ⟨b, 0, none⟩ = some u) : (w.setCell ⟨b, 0, none⟩ v).cell? ⟨b, 0, none⟩ = some v := World.cell?_setCell_same w _ _ h
theorem cell_off {w : World} {b c : Nat} {x v : Value} (h : w.cell? ⟨b, 0, none⟩ = some x) (hne : b ≠ c) : (w.setCell ⟨c, 0, none⟩ v).cell? ⟨b, 0, none⟩ = some x :=
  (World.cell?_of_block (w := w) (Below.heap_setCell w ⟨c, 0, none⟩ v b hne)).trans h

theorem run_facts {n runs : Nat} {L : Nat → Int} {st : Nat → Nat} (h : Runs n runs L st) {r : Nat} (hr : r < runs) :
    ∃ gl m, fin st runs n r = st r + gl ∧ n = st r + m ∧ 1 ≤ gl ∧ gl ≤ m ∧ (∀ J, J < gl → L (st r + J) = L (st r)) ∧ (gl < m → L (st r + gl) ≠ L (st r)) ∧ ((gl < m ↔ r + 1 < runs) ∧ (r + 1 < runs → st (r + 1) = st r + gl)) := by
  have h1 := h.pos r hr
  have h2 := h.le r hr
  refine ⟨fin st runs n r - st r, n - st r, by omega, by omega, by omega, by omega, fun J hJ => h.same r hr _ (by omega) (by omega), fun hlt => ?_, ⟨?_, ?_⟩, ?_⟩
  · by_cases hl : r + 1 < runs
    · have := h.diff r hl
      have e : fin st runs n r = st (r + 1) := by simp [fin, hl]
      rw [e] at h1 ⊢
      rwa [show st r + (st (r + 1) - st r) = st (r + 1) from by omega]
    · have e : fin st runs n r = n := by simp [fin, hl]
      omega
  · intro hlt
    apply Classical.byContradiction; intro hl
    have e : fin st runs n r = n := by simp [fin, hl]
    omega
  · intro hl
    have e : fin st runs n r = st (r + 1) := by simp [fin, hl]
    have := h.pos (r + 1) hl
    have := h.le (r + 1) hl
    omega
  · intro hl
    have e : fin st runs n r = st (r + 1) := by simp [fin, hl]
    omega

set_option maxRecDepth 100000 in
set_option maxHeartbeats 2000000 in
theorem seq_any (bd bo bf bg br bs bp bk bq ap ak sa n scap fr runs pb : Nat) (k : Int) (L E D : Nat → Int) (st : Nat → Nat) (v : Value) (w : World)
    (h : Env w bf br bs bp bk bq ap ak sa n scap fr runs k L E D st) (hR : Runs n runs L st)
    (cd : w.cell? ⟨bd, 0, none⟩ = some (.bool false)) (co : w.cell? ⟨bo, 0, none⟩ = some (.bool true)) (cg : w.cell? ⟨bg, 0, none⟩ = some (.int .i64 0)) (cv : w.cell? ⟨pb, 0, none⟩ = some v)
    (fg : w.frozen? ⟨bg, 0, none⟩ = false) (fd : w.frozen? ⟨bd, 0, none⟩ = false) (fp : w.frozen? ⟨pb, 0, none⟩ = false)
    (hn : n ≤ 1048576) (hfr : fr ≤ runs) (hsc : scap ≤ maxLen) (hrs : runs ≤ scap) (k0 : 0 ≤ k) (k1 : k ≤ 7) (hcur : Cur ap n runs st fr v)
    (og : Off bf br bs bp bk bq ap ak sa bg) (od : Off bf br bs bp bk bq ap ak sa bd) (op : Off bf br bs bp bk bq ap ak sa pb)
    (hdg : bd ≠ bg) (hdp : bd ≠ pb) (hgp : bg ≠ pb) (hod : bo ≠ bd) (hog : bo ≠ bg) (hop : bo ≠ pb) :
    Calls Yba.prog 20 #[.func (.func 16) #[] #[.pointer (some ⟨bd, 0, none⟩), .pointer (some ⟨bo, 0, none⟩), .pointer (some ⟨bf, 0, none⟩), .pointer (some ⟨bg, 0, none⟩), .pointer (some ⟨br, 0, none⟩), .pointer (some ⟨bs, 0, none⟩), .pointer (some ⟨bp, 0, none⟩), .pointer (some ⟨bk, 0, none⟩), .pointer (some ⟨bq, 0, none⟩)], .pointer (some ⟨pb, 0, none⟩)] w
      fun e w' => e = .returned (.tuple #[]) ∧ w'.cell? ⟨bg, 0, none⟩ = some (.int .i64 (groups runs fr k)) ∧ (∃ v', w'.cell? ⟨pb, 0, none⟩ = some v' ∧ Cur ap n runs st (nextRun runs fr k) v') ∧ w'.frozen? ⟨pb, 0, none⟩ = false ∧ Only bd bg pb w w' := by
  have H := Hid.mk h
  have HR := Hid.mk hR
  have HC := Hid.mk hcur
  have OG := Hid.mk og
  have OD := Hid.mk od
  have OP := Hid.mk op
  clear h hR hcur og od op
  go_enter Yba.func20, Yba.ntmps20
  go_wp2
  go_loopg [3] (runs - fr) (fun m s3 wr => ∃ (got : Nat) (x : Value), fr + got ≤ runs ∧ m = runs - fr - got ∧ (k = 0 ∨ got < k) ∧ wr.cell? ⟨bg, 0, none⟩ = some (.int .i64 got) ∧ wr.cell? ⟨bd, 0, none⟩ = some (.bool false) ∧ wr.cell? ⟨pb, 0, none⟩ = some x ∧ Cur ap n runs st (fr + got) x ∧ wr.frozen? ⟨bg, 0, none⟩ = false ∧ wr.frozen? ⟨bd, 0, none⟩ = false ∧ wr.frozen? ⟨pb, 0, none⟩ = false ∧ Only bd bg pb w wr)
  case atStart => exact ⟨0, v, by omega, by omega, by omega, cg, cd, cv, HC.out, fg, fd, fp, Only.refl _ _ _ _⟩
  case round =>
    obtain ⟨got, x, hgr, hm, hgk, rg, rd, rx, hx, zg, zd, zp, ho⟩ := hrel
    have HO := Hid.mk ho
    have HM := Hid.mk hm
    have HGK := Hid.mk hgk
    clear ho hm hgk cg cd cv fg fd fp
    rcases hx with ⟨hlt, rfl⟩ | ⟨heq, p, rfl⟩
    · obtain ⟨gl, m, hfin, hnm, hgl, hglm, hsame, hdiff, hlast⟩ := run_facts HR.out hlt
      have hE := H.out.only HO.out OD.out OG.out OP.out
      have HP := Hid.mk (fun i hi => (hE.pairs i hi).1)
      have HE := Hid.mk hE
      have ro := HO.out.cell co (by exact hod) (by exact hog) (by exact hop)
      have HF := Hid.mk hfin
      have HS := Hid.mk hsame
      have HD := Hid.mk hdiff
      have HL := Hid.mk hlast
      have hmn : n - st (fr + got) = m := by omega
      rw [hmn] at rx
      have HNM := Hid.mk hnm
      have HST : Hid (∃ s, s = st (fr + got)) := ⟨_, rfl⟩
      clear hE hfin hsame hdiff hlast hmn
      have hmb : m ≤ 1048576 := by omega
      have hsb : st (fr + got) ≤ 1048576 := by omega
      have hsm : st (fr + got) + m ≤ n := by omega
      clear hnm
      have hpg : pb ≠ bg := fun h => hgp h.symm
      have p0 := HP.out (st (fr + got)) (by omega)
      go_wp2
      go_loopw [3] (fun t wr' => ∃ J q : Nat, 1 ≤ J ∧ J ≤ gl ∧ t = .int .i64 J ∧ wr' = wr.drewN q) (fun t _ => gl - (intOf t).toNat)
      case atStart => exact ⟨1, 0, Nat.le_refl _, hgl, rfl, rfl⟩
      case round =>
        obtain ⟨J, q, hJ1, hJ, rfl, rfl⟩ := hrel
        by_cases hJlt : J < gl
        · have p1 := HP.out (st (fr + got) + J) (by omega)
          rw [HS.out J hJlt, Nat.add_mul] at p1
          have hJI : (J : Int) < (m : Int) := by omega
          have hm0 : (0 : Int) < (m : Int) := by omega
          go_wp2
          go_quiet (fail)
          go_wp2
          go_roundw
          case rel => exact ⟨J + 1, _, by omega, by omega, by go_num, rfl⟩
          case measure => simp [intOf]; omega
        · obtain rfl : J = gl := by omega
          by_cases hJm : J < m
          · have p1 := HP.out (st (fr + got) + J) (by omega)
            have hne := HD.out hJm
            rw [Nat.add_mul] at p1
            have hb : (L (st (fr + got) + J) == L (st (fr + got))) = false := by simpa using hne
            have hJI : (J : Int) < (m : Int) := by omega
            have hm0 : (0 : Int) < (m : Int) := by omega
            have hmJ : ¬ m = J := by omega
            clear hne
            go_wp2
            go_quiet (fail)
            go_wp2_with fail
            by_cases hk : k = 0 ∨ (got : Int) + 1 ≠ k
            · refine (yield_go bd bo bf bg br bs bp bk bq ap ak sa n scap fr runs got (st (fr + got)) J k L E D st m _ (HE.out.drewN _) (by exact rd) (by exact ro) (by exact rg) (by exact zg) hn hlt HR.out.runs_le hsc hrs rfl (by omega) (by omega) (by exact HF.out) (by omega) hglm k0 k1 hk (fun h => OG.out.q h.symm)).mono ?_
              rintro e w2 ⟨rfl, q2, rfl⟩
              go_wp2
              go_roundg (runs - fr - (got + 1))
              case measure => have := HM.out; omega
              case rel =>
                refine ⟨got + 1, _, by omega, rfl, by have := HGK.out; omega, cell_off (cell_same (by exact rg)) hgp, cell_off (cell_off (by exact rd) hdg) hdp, cell_same (cell_off (by exact rx) hpg), ?_, (by simpa using zg), (by simpa using zd), (by simpa using zp), ((HO.out.drewN _).set _ _ _ (by omega)).drewN _ |>.set _ _ _ (by omega)⟩
                refine Or.inl ⟨by have := (HL.out.1).1 hJm; omega, ?_⟩
                rw [show fr + (got + 1) = fr + got + 1 from by omega, HL.out.2 ((HL.out.1).1 hJm), Nat.add_mul]
                have e1 : n - (st (fr + got) + J) = m - J := by have := HNM.out; omega
                rw [e1]
            · refine (yield_stop bd bo bf bg br bs bp bk bq ap ak sa n scap fr runs got (st (fr + got)) J k L E D st m _ (HE.out.drewN _) (by exact rd) (by exact ro) (by exact rg) (by exact zg) (by exact zd) hn hlt HR.out.runs_le hsc hrs rfl (by omega) (by omega) (by exact HF.out) (by omega) hglm k0 k1 (by omega) (fun h => OG.out.q h.symm) hdg).mono ?_
              rintro e w2 ⟨rfl, q2, rfl⟩
              go_wp2
              go_returns
              have hkk : (got : Int) + 1 = k := by omega
              have eg : ((groups runs fr k : Nat) : Int) = got + 1 := by unfold groups; split <;> omega
              have en : nextRun runs fr k = fr + got := by unfold nextRun; split <;> omega
              refine ⟨rfl, ?_, ⟨_, cell_off (cell_off (by exact rx) hpg) (fun h => hdp h.symm), ?_⟩, by simpa using zp, (((HO.out.drewN _).set _ _ _ (by omega)).set _ _ _ (by omega)).drewN _⟩
              · rw [eg]; exact cell_off (cell_same (by exact rg)) (fun h => hdg h.symm)
              · rw [en]; exact Or.inl ⟨hlt, by rw [show n - st (fr + got) = m from by have := HNM.out; omega]⟩
          · obtain rfl : J = m := by omega
            have hd : decide ((J : Int) < (J : Int)) = false := by simp
            go_wp2
            go_quiet (fail)
            go_wp2_with fail
            by_cases hk : k = 0 ∨ (got : Int) + 1 ≠ k
            · refine (yield_go bd bo bf bg br bs bp bk bq ap ak sa n scap fr runs got (st (fr + got)) J k L E D st J _ (HE.out.drewN _) (by exact rd) (by exact ro) (by exact rg) (by exact zg) hn hlt HR.out.runs_le hsc hrs rfl (by omega) (by omega) (by exact HF.out) (by omega) hglm k0 k1 hk (fun h => OG.out.q h.symm)).mono ?_
              rintro e w2 ⟨rfl, q2, rfl⟩
              go_wp2
              go_roundg (runs - fr - (got + 1))
              case measure => have := HM.out; omega
              case rel =>
                refine ⟨got + 1, _, by omega, rfl, by have := HGK.out; omega, cell_off (cell_same (by exact rg)) hgp, cell_off (cell_off (by exact rd) hdg) hdp, cell_same (cell_off (by exact rx) hpg), ?_, (by simpa using zg), (by simpa using zd), (by simpa using zp), ((HO.out.drewN _).set _ _ _ (by omega)).drewN _ |>.set _ _ _ (by omega)⟩
                refine Or.inr ⟨?_, _, rfl⟩
                have := HL.out.1
                omega
            · refine (yield_stop bd bo bf bg br bs bp bk bq ap ak sa n scap fr runs got (st (fr + got)) J k L E D st J _ (HE.out.drewN _) (by exact rd) (by exact ro) (by exact rg) (by exact zg) (by exact zd) hn hlt HR.out.runs_le hsc hrs rfl (by omega) (by omega) (by exact HF.out) (by omega) hglm k0 k1 (by omega) (fun h => OG.out.q h.symm) hdg).mono ?_
              rintro e w2 ⟨rfl, q2, rfl⟩
              go_wp2
              go_returns
              have hkk : (got : Int) + 1 = k := by omega
              have eg : ((groups runs fr k : Nat) : Int) = got + 1 := by unfold groups; split <;> omega
              have en : nextRun runs fr k = fr + got := by unfold nextRun; split <;> omega
              refine ⟨rfl, ?_, ⟨_, cell_off (cell_off (by exact rx) hpg) (fun h => hdp h.symm), ?_⟩, by simpa using zp, (((HO.out.drewN _).set _ _ _ (by omega)).set _ _ _ (by omega)).drewN _⟩
              · rw [eg]; exact cell_off (cell_same (by exact rg)) (fun h => hdg h.symm)
              · rw [en]; exact Or.inl ⟨hlt, by rw [show n - st (fr + got) = J from by have := HNM.out; omega]⟩
    · go_wp2
      go_end0
      refine ⟨rfl, ?_, ⟨_, rx, ?_⟩, zp, HO.out⟩
      · rw [rg]; simp only [Option.some.injEq, Value.int.injEq, true_and]; have := HGK.out; unfold groups; split <;> omega
      · refine Or.inr ⟨?_, p, rfl⟩; have := HGK.out; unfold nextRun; split <;> omega
end Go.Proofs.Ybulkefbu.C
