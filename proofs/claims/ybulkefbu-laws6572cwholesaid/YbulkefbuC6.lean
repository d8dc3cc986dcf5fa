/- LawS6572CWhole: the law's own walk. -/
import Derived.Test.YbulkefbuC5
namespace Go.Proofs.Ybulkefbu.C
open Go.RowKit
set_option linter.unusedVariables false

/-- What stands behind the second loop's j-th round: v is the slice of starts. -/
structure Two (w0 : World) (S : Nat) (w : World) (n j : Nat) (L E D : Nat → Int) (v : Value) : Prop where
  pairs : Arr w w0.heap.size n n L E D
  keep : Arr w (w0.heap.size + 1 + 1) n n L E D
  bp : Box w (w0.heap.size + 1) 44 (.slice (some ⟨w0.heap.size, 0, none⟩) n n)
  bk : Box w (w0.heap.size + 1 + 1 + 1) 44 (.slice (some ⟨w0.heap.size + 1 + 1, 0, none⟩) n n)
  below : Below w0.heap.size w0 w
  bs : Box w (S + 1) 33 v
  own : w.ownsRow S 3 1 v (sts L j).length ((sts L j).map fun (p : Nat) => Value.int .i64 p)
  form : ∃ g cap, v = .slice (some ⟨g, 0, none⟩) (sts L j).length cap
  apart : v.ownBlock ≠ some (S + 1)
  size : S + 2 ≤ w.heap.size
  far : w0.heap.size + 4 ≤ S

theorem two_start {w0 w : World} {n : Nat} {L E D : Nat → Int} (h : Fill w0 w n n L E D) : Two w0 w.heap.size ((w.alloc (.cells #[] 3)).alloc (.cells #[.slice (some ⟨w.heap.size, 0, none⟩) 0 0] 33)) n 0 L E D (.slice (some ⟨w.heap.size, 0, none⟩) 0 0) := by
  have old : ∀ k, k < w.heap.size → ((w.alloc (.cells #[] 3)).alloc (.cells #[.slice (some ⟨w.heap.size, 0, none⟩) 0 0] 33)).heap[k]? = w.heap[k]? := fun k hk => by
    rw [Below.heap_alloc _ _ _ (by simp; omega), Below.heap_alloc _ _ _ hk]
  have hs := h.size
  exact {
    pairs := h.pairs.block (old _ h.pairs.lt)
    keep := h.keep.block (old _ h.keep.lt)
    bp := h.bp.block (old _ h.bp.lt)
    bk := h.bk.block (old _ h.bk.lt)
    below := (h.below.alloc (by omega) _).alloc (by simp; omega) _
    bs := by simp only [Box, World.alloc, Array.getElem?_push, Array.size_push]; simp
    own := ⟨by simp [sts], Or.inr ⟨w.heap.size, 0, #[], rfl, Nat.le_refl _, by rw [Below.heap_alloc _ _ _ (by simp)]; exact heap_alloc_new w _, Nat.zero_le _, Nat.zero_le _, rfl, by simp [sts]⟩⟩
    form := ⟨_, _, rfl⟩
    apart := by simp [Value.ownBlock]
    size := by simp
    far := by omega }

theorem sts_len (L : Nat → Int) : ∀ j, (sts L j).length ≤ j
  | 0 => by simp [sts]
  | j + 1 => by
    have := sts_len L j
    unfold sts; split
    · simp; omega
    · omega

theorem one_new (w : World) (q : Nat) (x : Value) : ∀ (j : Nat) (u : Value), ([x] : List Value)[j]? = some u → ((w.drewN q).alloc (.cells #[x] 3)).cell? ((⟨w.heap.size, 0, none⟩ : Addr).add j) = some u := by
  intro j u h
  rcases j with _ | j
  · simp at h; subst h
    simp only [Addr.add, if_true]
    have : ((w.drewN q).alloc (.cells #[x] 3)).heap[w.heap.size]? = some (.cells #[x] 3) := heap_alloc_new (w.drewN q) _
    unfold World.cell?
    rw [this]
    rfl
  · simp at h

/-- A start is appended. -/
theorem two_push {w0 : World} {S : Nat} {w : World} {n j : Nat} {L E D : Nat → Int} {v : Value} (h : Two w0 S w n j L E D v) (hc : j = 0 ∨ L j ≠ L (j - 1)) {q g cap : Nat} {w1 : World}
    (hown : w1.ownsRow S 3 1 (.slice (some ⟨g, 0, none⟩) ((sts L j).length + 1) cap) ((sts L j).length + 1) (((sts L j).map fun (p : Nat) => Value.int .i64 p) ++ [.int .i64 j]))
    (hgrow : ((w.drewN q).alloc (.cells #[.int .i64 j] 3)).grownBy w1 v.ownBlock) (hat : v.ownBlock = some g ∨ g = w.heap.size + 1) :
    Two w0 S (w1.setCell ⟨S + 1, 0, none⟩ (.slice (some ⟨g, 0, none⟩) ((sts L j).length + 1) cap)) n (j + 1) L E D (.slice (some ⟨g, 0, none⟩) ((sts L j).length + 1) cap) := by
  have hfar := h.far
  have hsz := h.size
  have e : sts L (j + 1) = sts L j ++ [j] := by simp [sts, hc]
  have old : ∀ k, k < S → (w1.setCell ⟨S + 1, 0, none⟩ (.slice (some ⟨g, 0, none⟩) ((sts L j).length + 1) cap)).heap[k]? = w.heap[k]? := fun k hk => by
    rw [Below.heap_setCell _ _ _ _ (by simp; omega), hgrow.block k (by simp; omega) (fun hh => by have := (h.own.lt k hh.symm).1; omega), Below.heap_alloc _ _ _ (by simp; omega)]
    rfl
  have hg5 : g ≠ S + 1 := by
    rcases hat with hat | hat
    · intro hh; exact h.apart (by rw [hat, hh])
    · omega
  have hb1 : Box w1 (S + 1) 33 v := by
    refine h.bs.block ?_
    rw [hgrow.block (S + 1) (by simp; omega) (fun hh => h.apart hh.symm), Below.heap_alloc _ _ _ (by simp; omega)]
    rfl
  exact {
    pairs := h.pairs.block (old _ (by omega))
    keep := h.keep.block (old _ (by omega))
    bp := h.bp.block (old _ (by omega))
    bk := h.bk.block (old _ (by omega))
    below := by
      refine Below.setCell (h.below.trans ⟨hgrow.os, hgrow.tape, hgrow.output, ?_, fun k hk => ?_⟩) (by simp; omega) _
      · have := hgrow.size; simp at this; omega
      · rw [hgrow.block k (by simp; have := h.below.size; omega) (fun hh => by have := (h.own.lt k hh.symm).1; omega), Below.heap_alloc _ _ _ (by simp; have := h.below.size; omega)]
        rfl
    bs := by unfold Box at hb1 ⊢; simp [World.setCell, Array.getElem?_modify, hb1]
    own := by
      rw [e]
      simp only [List.length_append, List.length_cons, List.length_nil, List.map_append, List.map_cons, List.map_nil]
      exact hown.kept (row := some (S + 1)) ⟨rfl, rfl, rfl, by simp [World.setCell], fun k _ hne => Below.heap_setCell _ _ _ _ (fun hh => hne (by rw [hh]))⟩ (Or.inr (by simpa [Value.ownBlock] using hg5))
    form := ⟨g, cap, by rw [e]; simp⟩
    apart := by simpa [Value.ownBlock] using hg5
    size := by have := hgrow.size; simp at this; simp [World.setCell]; omega
    far := hfar }

/-- No start at j. -/
theorem two_skip {w0 : World} {S : Nat} {w : World} {n j : Nat} {L E D : Nat → Int} {v : Value} (h : Two w0 S w n j L E D v) (hc : ¬ (j = 0 ∨ L j ≠ L (j - 1))) (q : Nat) : Two w0 S (w.drewN q) n (j + 1) L E D v := by
  have e : sts L (j + 1) = sts L j := by simp [sts, hc]
  exact ⟨h.pairs, h.keep, h.bp, h.bk, ⟨h.below.os, h.below.tape, h.below.output, h.below.size, h.below.block⟩, h.bs, by rw [e]; exact h.own, by rw [e]; exact h.form, h.apart, h.size, h.far⟩

theorem byLine_any (a : Option Addr) (n c : Nat) (w : World) : Calls Yba.prog 14 #[.slice a n c] w fun e w' => e = .returned (.func (.func 20) #[] #[.pointer (some ⟨w.heap.size, 0, none⟩)]) ∧ w' = w.alloc (.cells #[.slice a n c] 44) := by
  go_enter Yba.func14, Yba.ntmps14
  go_wp2
  go_ret
  exact ⟨rfl, rfl⟩

theorem info3 : (Yba.prog.info? 3).map (fun i => (i.zero, i.size, i.bytes)) = some (some (.int .i64 0), 1, 8) := by kernel_rfl

theorem box_grown {w0 : World} {S : Nat} {w : World} {n j : Nat} {L E D : Nat → Int} {v : Value} (h : Two w0 S w n j L E D v) {q : Nat} {o : Obj} {w1 : World} (hgrow : ((w.drewN q).alloc o).grownBy w1 v.ownBlock) :
    w1.cell? ⟨S + 1, 0, none⟩ = some v ∧ w1.frozen? ⟨S + 1, 0, none⟩ = false := by
  have hsz := h.size
  have hb1 : Box w1 (S + 1) 33 v := by
    refine h.bs.block ?_
    rw [hgrow.block (S + 1) (by simp; omega) (fun hh => h.apart hh.symm), Below.heap_alloc _ _ _ (by simp; omega)]
    rfl
  exact ⟨hb1.cell, hb1.frozen 0⟩

/-- All that the two calls of callOnce want; run fr is next. -/
structure Ready (h H g cap n : Nat) (k : Int) (L E D : Nat → Int) (fr : Nat) (W : World) : Prop where
  base : Base W H (h + 4 + 1) (h + 1) (h + 1 + 1 + 1) (H + 1) h (h + 1 + 1) g n cap (sts L n).length k L E D (fun r => (sts L n).getD r 0)
  seq : W.cell? ⟨H + 1 + 1 + 1, 0, none⟩ = some (.func (.func 20) #[] #[.pointer (some ⟨H + 1 + 1, 0, none⟩)])
  cur : ∃ v, W.cell? ⟨H + 1 + 1, 0, none⟩ = some v ∧ Cur h n (sts L n).length (fun r => (sts L n).getD r 0) fr v
  fz : W.frozen? ⟨H + 1 + 1, 0, none⟩ = false
  off : Off8 H (h + 4 + 1) (h + 1) (h + 1 + 1 + 1) (H + 1) h (h + 1 + 1) g (H + 1 + 1)
  cap_le : cap ≤ maxLen
  runs_le : (sts L n).length ≤ cap

theorem ready_start {w0 w : World} {n g cap : Nat} {k : Int} {L E D : Nat → Int} (h : Two w0 (w0.heap.size + 4) w n n L E D (.slice (some ⟨g, 0, none⟩) (sts L n).length cap)) :
    Ready w0.heap.size w.heap.size g cap n k L E D 0 ((((w.alloc (.cells #[.int .i64 (sts L n).length] 3)).alloc (.cells #[.int .i64 k] 3)).alloc (.cells #[.slice (some ⟨w0.heap.size, 0, none⟩) n n] 44)).alloc (.cells #[.func (.func 20) #[] #[.pointer (some ⟨w.heap.size + 1 + 1, 0, none⟩)]] 50)) ∧
    Below w0.heap.size w0 ((((w.alloc (.cells #[.int .i64 (sts L n).length] 3)).alloc (.cells #[.int .i64 k] 3)).alloc (.cells #[.slice (some ⟨w0.heap.size, 0, none⟩) n n] 44)).alloc (.cells #[.func (.func 20) #[] #[.pointer (some ⟨w.heap.size + 1 + 1, 0, none⟩)]] 50)) := by
  have hb : Below w.heap.size w ((((w.alloc (.cells #[.int .i64 (sts L n).length] 3)).alloc (.cells #[.int .i64 k] 3)).alloc (.cells #[.slice (some ⟨w0.heap.size, 0, none⟩) n n] 44)).alloc (.cells #[.func (.func 20) #[] #[.pointer (some ⟨w.heap.size + 1 + 1, 0, none⟩)]] 50)) :=
    (((((Below.refl _ _).alloc (Nat.le_refl _) _).alloc (by simp) _ |>.alloc (by simp; omega) _).alloc (by simp; omega) _))
  have hsz := h.size
  have hbs := h.below.size
  obtain ⟨_, ho⟩ := h.own
  rcases ho with ⟨hv, _⟩ | ⟨g', cap', cur, hv, hg, hh, hnc, hcm, hcs, htake⟩
  · simp at hv
  simp only [Value.slice.injEq, Option.some.injEq, Addr.mk.injEq, and_true, true_and] at hv
  obtain ⟨rfl, rfl⟩ := hv
  have hgl : g < w.heap.size := by obtain ⟨x, _⟩ := Array.getElem?_eq_some_iff.1 hh; exact x
  refine ⟨⟨?_, ?_, ?_, ?_, ?_, hcm, hnc⟩, h.below.trans (hb.mono hbs)⟩
  · exact {
      cr := by simp [go_sem]
      cs := cell_keep hb h.bs.cell
      cp := cell_keep hb h.bp.cell
      ck := cell_keep hb h.bk.cell
      cq := by simp [go_sem]
      pairs := fun i hi => ⟨cell_keep hb (h.pairs.pair hi).1, cell_keep hb (h.pairs.pair hi).2.1, cell_keep hb (h.pairs.pair hi).2.2⟩
      keep := fun i hi => ⟨cell_keep hb (h.keep.pair hi).1, cell_keep hb (h.keep.pair hi).2.1, cell_keep hb (h.keep.pair hi).2.2⟩
      starts := fun r hr => cell_keep hb (by rw [h.own.cellAt r (by omega)]; simp [List.getD, hr])
      lap := by simp; omega
      lak := by simp; omega
      lsa := by simp; omega }
  · simp [go_sem]
  · refine ⟨.slice (some ⟨w0.heap.size, 0, none⟩) n n, by simp [go_sem], ?_⟩
    have hR := sts_runs L n
    by_cases h0 : 0 < (sts L n).length
    · refine Or.inl ⟨h0, ?_⟩
      have hz : (fun r => (sts L n).getD r 0) 0 = 0 := hR.zero h0
      rw [hz]; simp
    · have hl : (sts L n).length = 0 := by omega
      have := hR.none hl
      refine Or.inr ⟨hl.symm, _, by rw [this]⟩
  · simp [go_sem]
  · exact ⟨by omega, by omega, by omega, by omega, by omega, by omega, by omega, by omega⟩

theorem ready_once {h H g cap n : Nat} {k : Int} {L E D : Nat → Int} {fr : Nat} {W : World} (hr : Ready h H g cap n k L E D fr W) (hn : n ≤ 1048576) (hfr : fr ≤ (sts L n).length) (k0 : 0 ≤ k) (k1 : k ≤ 7) (fi : Int) (hfi : fi = fr) :
    Calls Yba.prog 15 #[.int .i64 fi, .pointer (some ⟨H + 1 + 1 + 1, 0, none⟩), .pointer (some ⟨H, 0, none⟩), .pointer (some ⟨h + 4 + 1, 0, none⟩), .pointer (some ⟨h + 1, 0, none⟩), .pointer (some ⟨h + 1 + 1 + 1, 0, none⟩), .pointer (some ⟨H + 1, 0, none⟩)] W
      fun e w' => e = .returned (.tuple #[.int .i64 (groups (sts L n).length fr k), .bool true]) ∧ Ready h H g cap n k L E D (nextRun (sts L n).length fr k) w' ∧ W.grownBy w' (some (H + 1 + 1)) := by
  subst hfi
  obtain ⟨v, hv, hc⟩ := hr.cur
  refine (once_any H (h + 4 + 1) (h + 1) (h + 1 + 1 + 1) (H + 1) h (h + 1 + 1) g n cap fr (sts L n).length (H + 1 + 1) (H + 1 + 1 + 1) k L E D _ v W hr.base (sts_runs L n) hr.seq hv hr.fz hn hfr hr.cap_le hr.runs_le k0 k1 hc hr.off (by omega)).mono ?_
  rintro e w' ⟨rfl, hcur, hfz, hg⟩
  exact ⟨rfl, ⟨hr.base.grown hg hr.off, hg.cell hr.seq (by simp), hcur, hfz, hr.off, hr.cap_le, hr.runs_le⟩, hg⟩

theorem groups_want {runs fr g : Nat} {k : Int} (hfr : fr ≤ runs) (k0 : 0 ≤ k) (h : groups runs fr k = g) : ((k = 0 ∨ (runs : Int) - fr < k) ∧ (g : Int) = runs - fr) ∨ (0 < k ∧ k ≤ (runs : Int) - fr ∧ (g : Int) = k) := by
  subst h
  unfold groups
  split <;> omega

theorem below_two {w W W1 W2 : World} {p n : Nat} (h : Below w.heap.size w W) (h1 : W.grownBy W1 (some p)) (h2 : W1.grownBy W2 (some p)) (hp : w.heap.size + 4 + 2 ≤ n) (hn : p = n + 1 + 1) : Below w.heap.size w W2 := by
  have a := h.grown h1 h.size (fun k hk => by simp at hk; omega)
  exact a.grown h2 a.size (fun k hk => by simp at hk; omega)

set_option maxRecDepth 100000 in
set_option maxHeartbeats 4000000 in
theorem law_walk (a : Option Addr) (n c b o : Nat) (L E D : Nat → Int) (x : Int) (w : World) (hin : In w a n c b o L E D) (x0 : 0 ≤ x) (x1 : x ≤ 255) :
    Calls Yba.prog 5 #[.slice a n c, .int .u8 x] w fun e w' => e = .returned (.bool true) ∧ Below w.heap.size w w' := by
  have l1 := hin.le
  have l2 := hin.cap
  unfold maxLen at l2
  by_cases hbig : 1048576 < n
  · go_enter Yba.func5, Yba.ntmps5
    go_wp2
    go_ret
    exact ⟨rfl, Below.refl _ _⟩
  have t1 : decide ((1048576 : Int) < (n : Int)) = false := by simp; omega
  have hmk := mk44 n (by omega)
  have HIN := Hid.mk hin
  clear hin
  go_enter Yba.func5, Yba.ntmps5
  go_wp2
  go_loopw [7] (fun i wr => ∃ I, I ≤ n ∧ i = .int .i64 (I : Nat) ∧ Fill w wr n I L E D) (fun i _ => n - (intOf i).toNat)
  case atStart => exact ⟨0, Nat.zero_le _, rfl, fill_start w n L E D⟩
  case round =>
    obtain ⟨I, hI, rfl, hF⟩ := hrel
    by_cases hlt : I < n
    · have hsome := HIN.out.here (by omega)
      subst hsome
      obtain ⟨y0, y1, y2⟩ := HIN.out.cell I hlt
      have hbl := World.block_lt_of_cell? w _ y0
      simp only at hbl
      have hb1 : ¬ b = w.heap.size := by omega
      have hb2 : ¬ b = w.heap.size + 1 + 1 := by omega
      replace y0 := cell_keep hF.below y0
      replace y1 := cell_keep hF.below y1
      replace y2 := cell_keep hF.below y2
      have b1 := hF.bp.cell
      have f1 := hF.pairs.frozen
      obtain ⟨v0, p0⟩ := hF.pairs.some (o := I * 3) (by omega)
      obtain ⟨v1, p1⟩ := hF.pairs.some (o := I * 3 + 1) (by omega)
      obtain ⟨v2, p2⟩ := hF.pairs.some (o := I * 3 + 2) (by omega)
      have HF := Hid.mk hF
      have hII : (I : Int) < (n : Int) := by omega
      clear hF hmk t1 l1 l2 x0 x1
      go_wp2
      go_region_held3 (fun w' => w'.cell? ⟨w.heap.size + 1, 0, none⟩ = some (.slice (some ⟨w.heap.size, 0, none⟩) n n) ∧ w'.cell? ⟨b, o + I * 3, none⟩ = some (.int .i64 (L I)) ∧ w'.cell? ⟨b, o + I * 3 + 1, none⟩ = some (.int .i64 (E I)) ∧ w'.cell? ⟨b, o + I * 3 + 2, none⟩ = some (.int .i64 (D I))) (first | (go_split_ands; refine ⟨?_, off3 (by assumption) hb1, off3 (by assumption) hb1, off3 (by assumption) hb1⟩; go_keep) | go_keep) (fail)
      have H8 := fill_one HF.out hlt
      generalize (((wr.setCell ⟨w.heap.size, I * 3, none⟩ (.int .i64 (L I))).setCell ⟨w.heap.size, I * 3 + 1, none⟩ (.int .i64 (E I))).setCell ⟨w.heap.size, I * 3 + 2, none⟩ (.int .i64 (D I))).drew = W8 at *
      clear p0 p1 p2 f1 b1 y0 y1 y2 hb1 HF
      have b1 := H8.2.2.1.cell
      have b2 := H8.2.2.2.1.cell
      obtain ⟨y0, y1, y2⟩ := H8.1.pair (Nat.lt_succ_self I)
      have f2 := H8.2.1.frozen
      obtain ⟨v0, p0⟩ := H8.2.1.some (o := I * 3) (by omega)
      obtain ⟨v1, p1⟩ := H8.2.1.some (o := I * 3 + 1) (by omega)
      obtain ⟨v2, p2⟩ := H8.2.1.some (o := I * 3 + 2) (by omega)
      have HF := Hid.mk H8
      clear H8
      go_wp2
      go_region_held3 (fun w' => w'.cell? ⟨w.heap.size + 1, 0, none⟩ = some (.slice (some ⟨w.heap.size, 0, none⟩) n n) ∧ w'.cell? ⟨w.heap.size + 1 + 1 + 1, 0, none⟩ = some (.slice (some ⟨w.heap.size + 1 + 1, 0, none⟩) n n) ∧ w'.cell? ⟨w.heap.size, I * 3, none⟩ = some (.int .i64 (L I)) ∧ w'.cell? ⟨w.heap.size, I * 3 + 1, none⟩ = some (.int .i64 (E I)) ∧ w'.cell? ⟨w.heap.size, I * 3 + 2, none⟩ = some (.int .i64 (D I))) (first | (go_split_ands; exact ⟨off3 (by assumption) (by omega), off3 (by assumption) (by omega), off3 (by assumption) (by omega), off3 (by assumption) (by omega), off3 (by assumption) (by omega)⟩) | go_keep) (fail)
      go_wp2
      go_roundw
      case rel => exact ⟨I + 1, by omega, by go_num, fill_two HF.out hlt⟩
      case measure => simp [intOf]; omega
    · obtain rfl : I = n := by omega
      have HF := Hid.mk hF
      clear hF hmk
      have b1 := HF.out.bp.cell
      have hS := HF.out.size
      have st0 := two_start HF.out
      rw [hS] at st0
      go_wp2
      go_loopw [9] (fun i w2 => ∃ J v, J ≤ I ∧ i = .int .i64 (J : Nat) ∧ Two w (w.heap.size + 4) w2 I J L E D v) (fun i _ => I - (intOf i).toNat)
      case atStart => exact ⟨0, _, Nat.zero_le _, rfl, st0⟩
      case round =>
        obtain ⟨J, v, hJ, rfl, hT⟩ := hrel
        by_cases hJlt : J < I
        · have hJI : (J : Int) < (I : Int) := by omega
          obtain ⟨g, cap, hv⟩ := hT.form
          subst hv
          obtain ⟨i3, hi3, hh3⟩ := Option.map_eq_some_iff.1 info3
          simp only [Prod.mk.injEq] at hh3
          obtain ⟨hz3, hs3, hy3⟩ := hh3
          have hlen := sts_len L J
          clear b1
          have b1 := hT.bp.cell
          have b2 := hT.bs.cell
          have z2 := hT.bs.frozen
          by_cases hJ0 : J = 0
          · subst hJ0
            have HT := Hid.mk hT
            clear hT
            go_wp2
            go_quiet (fail)
            go_wp2_with (at_builtin; refine wpList_append_lies _ rfl _ _ _ rfl (w.heap.size + 4) 3 i3 (.int .i64 0) 1 8 Yba.underlying33 hi3 hz3 hs3 hy3 rfl (by omega) _ (sts L (0)).length ((sts L (0)).map fun (p : Nat) => Value.int .i64 p) (by rfl) (by exact (HT.out.own.alloc _)) _ 1 1 [.int .i64 0] (by rfl) rfl (one_new _ _ _) (by simp [Value.oneCell']) (by omega) (by unfold maxLen; omega) (by omega) (by have := HT.out.size; simp; omega) (wr.heap.size + 1) (by simp) ?_; intro g' cap' w1 hown hgrow hat hlt1; obtain ⟨c5, z5⟩ := box_grown HT.out hgrow)
            go_roundw
            case rel => exact ⟨0 + 1, _, by omega, by go_num, two_push HT.out (Or.inl rfl) hown hgrow hat⟩
            case measure => simp [intOf]; omega
          · have c1 := (hT.pairs.pair hJlt).1
            have c2 := (hT.pairs.pair (j := J - 1) (by omega)).1
            have HT := Hid.mk hT
            clear hT
            have hJI2 : (0 : Int) ≤ (J : Int) - 1 := by omega
            have hJI3 : (J : Int) - 1 < (I : Int) := by omega
            have hJ1 : ((J : Int) - 1).toNat = J - 1 := by omega
            have hJb : ((J : Int) == 0) = false := by simpa using hJ0
            by_cases hc : L J = L (J - 1)
            · have hcb : (L J != L (J - 1)) = false := by simpa using hc
              have HC := Hid.mk hc
              clear hc
              go_wp2
              go_quiet (fail)
              go_wp2
              go_roundw
              case rel => exact ⟨J + 1, _, by omega, by go_num, two_skip HT.out (by have := HC.out; omega) _⟩
              case measure => simp [intOf]; omega
            · have hcb : (L J != L (J - 1)) = true := by simpa using hc
              go_wp2
              go_quiet (fail)
              go_wp2_with (at_builtin; refine wpList_append_lies _ rfl _ _ _ rfl (w.heap.size + 4) 3 i3 (.int .i64 0) 1 8 Yba.underlying33 hi3 hz3 hs3 hy3 rfl (by omega) _ (sts L J).length ((sts L J).map fun (p : Nat) => Value.int .i64 p) (by rfl) (by exact (HT.out.own.alloc _)) _ 1 1 [.int .i64 J] (by rfl) rfl (one_new _ _ _) (by simp [Value.oneCell']) (by omega) (by unfold maxLen; omega) (by omega) (by have := HT.out.size; simp; omega) (wr.heap.size + 1) (by simp) ?_; intro g' cap' w1 hown hgrow hat hlt1; obtain ⟨c5, z5⟩ := box_grown HT.out hgrow)
              go_roundw
              case rel => exact ⟨J + 1, _, by omega, by go_num, two_push HT.out (Or.inr hc) hown hgrow hat⟩
              case measure => simp [intOf]; omega
        · obtain rfl : J = I := by omega
          obtain ⟨g, cap, hv⟩ := hT.form
          subst hv
          have b2 := hT.bs.cell
          clear b1
          have b1 := hT.bp.cell
          have hlen := sts_len L J
          have HT := Hid.mk hT
          clear hT
          have bb : ∀ o1 o2, ((wr.alloc o1).alloc o2).cell? ⟨w.heap.size + 1, 0, none⟩ = some (.slice (some ⟨w.heap.size, 0, none⟩) J J) := fun o1 o2 => cell_keep (w := wr) (((Below.refl _ _).alloc (Nat.le_refl _) _).alloc (by simp) _) b1
          go_wp2_with (first | (go_at_call 14; refine (byLine_any _ _ _ _).mono ?_; rintro e w' ⟨rfl, rfl⟩))
          obtain ⟨hR, hB⟩ := ready_start (k := x % 8) HT.out
          generalize ((((wr.alloc (.cells #[.int .i64 (sts L J).length] 3)).alloc (.cells #[.int .i64 (x % 8)] 3)).alloc (.cells #[.slice (some ⟨w.heap.size, 0, none⟩) J J] 44)).alloc (.cells #[.func (.func 20) #[] #[.pointer (some ⟨wr.heap.size + 1 + 1, 0, none⟩)]] 50)) = W at *
          have hsz4 := HT.out.size
          generalize wr.heap.size = H at *
          clear b1 b2 bb HT
          have k0 : 0 ≤ x % 8 := by omega
          have k1 : x % 8 ≤ 7 := by omega
          generalize x % 8 = k at *
          generalize hruns : (sts L J).length = runs at *
          refine (ready_once hR (by omega) (Nat.zero_le _) k0 k1 0 rfl).mono ?_
          rintro e W1 ⟨rfl, hR1, hG1⟩
          obtain ⟨g1, hg1⟩ : ∃ g1, groups (sts L J).length 0 k = g1 := ⟨_, rfl⟩
          obtain ⟨fr2, hf2⟩ : ∃ fr2, nextRun (sts L J).length 0 k = fr2 := ⟨_, rfl⟩
          rw [hf2] at hR1
          rw [hruns] at hg1 hf2
          have HG1 := Hid.mk (groups_want (Nat.zero_le _) k0 hg1)
          rw [hruns, hg1]
          have c1 := hR1.base.cr
          have c2 := hR1.base.cq
          rw [hruns] at c1
          have HR1 := Hid.mk hR1
          have HGR := Hid.mk hG1
          have HB := Hid.mk hB
          have HRuns := Hid.mk hruns
          clear hR1 hG1 hR hB hruns hg1 st0 hS
          have hr20 : runs ≤ 1048576 := by omega
          by_cases hA : 0 < k ∧ k ≤ runs
          · obtain ⟨hA1, hA2⟩ := hA
            have hf : (fr2 : Int) = k - 1 := by rw [← hf2]; unfold nextRun; split <;> omega
            clear hf2
            go_wp2_with (first | (go_at_call 17; refine (want_any runs 0 k g1 _ (by omega) (by omega) (by omega) k0 k1 HG1.out).mono ?_; rintro e w' ⟨rfl, rfl⟩))
            refine (ready_once HR1.out (by omega) (by have := HRuns.out; omega) k0 k1 (k - 1) (by have := HRuns.out; omega)).mono ?_
            rintro e W2 ⟨rfl, hR2, hG2⟩
            rw [HRuns.out]
            obtain ⟨g2, hg2⟩ : ∃ g2, groups runs fr2 k = g2 := ⟨_, rfl⟩
            have HG2 := Hid.mk (groups_want (by omega) k0 hg2)
            rw [hg2]
            clear hg2 c1 c2
            have c1 := hR2.base.cr
            rw [HRuns.out] at c1
            have c2 := hR2.base.cq
            have c3 := hR2.base.cp
            have c4 := hR2.base.ck
            have HP := Hid.mk hR2.base.pairs
            have HK := Hid.mk hR2.base.keep
            have HB2 := Hid.mk (below_two HB.out HGR.out hG2 hsz4 rfl)
            clear hR2 hG2
            go_wp2_with (first | (go_at_call 17; refine (want_any runs _ k g2 _ (by omega) (by omega) (by omega) k0 k1 (by have := HG2.out; omega)).mono ?_; rintro e w' ⟨rfl, rfl⟩))
            go_loopw [19] (fun i w3 => ∃ T q : Nat, T ≤ J ∧ i = .int .i64 (T : Nat) ∧ w3 = w'.drewN q) (fun i _ => J - (intOf i).toNat)
            case atStart => exact ⟨0, 0, Nat.zero_le _, rfl, rfl⟩
            case round =>
              obtain ⟨T, q, hT, rfl, rfl⟩ := hrel
              by_cases hTlt : T < J
              · obtain ⟨p0, p1, p2⟩ := HP.out T hTlt
                obtain ⟨q0, q1, q2⟩ := HK.out T hTlt
                have hTI : (T : Int) < (J : Int) := by omega
                go_wp2
                go_quiet (fail)
                go_wp2
                go_roundw
                case rel => exact ⟨T + 1, _, by omega, by go_num, rfl⟩
                case measure => simp [intOf]; omega
              · go_wp2
                go_ret
                exact ⟨rfl, ⟨HB2.out.os, HB2.out.tape, HB2.out.output, HB2.out.size, HB2.out.block⟩⟩
          · have hf : fr2 = runs := by rw [← hf2]; unfold nextRun; split <;> omega
            clear hf2
            by_cases hk : 0 < k
            · have hkr : ¬ k ≤ runs := fun h => hA ⟨hk, h⟩
              clear hA
              go_wp2_with (first | (go_at_call 17; refine (want_any runs 0 k g1 _ (by omega) (by omega) (by omega) k0 k1 HG1.out).mono ?_; rintro e w' ⟨rfl, rfl⟩))
              refine (ready_once HR1.out (by omega) (by have := HRuns.out; omega) k0 k1 (runs : Int) (by have := HRuns.out; omega)).mono ?_
              rintro e W2 ⟨rfl, hR2, hG2⟩
              rw [HRuns.out]
              obtain ⟨g2, hg2⟩ : ∃ g2, groups runs fr2 k = g2 := ⟨_, rfl⟩
              have HG2 := Hid.mk (groups_want (by omega) k0 hg2)
              rw [hg2]
              clear hg2 c1 c2
              have c1 := hR2.base.cr
              rw [HRuns.out] at c1
              have c2 := hR2.base.cq
              have c3 := hR2.base.cp
              have c4 := hR2.base.ck
              have HP := Hid.mk hR2.base.pairs
              have HK := Hid.mk hR2.base.keep
              have HB2 := Hid.mk (below_two HB.out HGR.out hG2 hsz4 rfl)
              clear hR2 hG2
              go_wp2_with (first | (go_at_call 17; refine (want_any runs _ k g2 _ (by omega) (by omega) (by omega) k0 k1 (by have := HG2.out; omega)).mono ?_; rintro e w' ⟨rfl, rfl⟩))
              go_loopw [19] (fun i w3 => ∃ T q : Nat, T ≤ J ∧ i = .int .i64 (T : Nat) ∧ w3 = w'.drewN q) (fun i _ => J - (intOf i).toNat)
              case atStart => exact ⟨0, 0, Nat.zero_le _, rfl, rfl⟩
              case round =>
                obtain ⟨T, q, hT, rfl, rfl⟩ := hrel
                by_cases hTlt : T < J
                · obtain ⟨p0, p1, p2⟩ := HP.out T hTlt
                  obtain ⟨q0, q1, q2⟩ := HK.out T hTlt
                  have hTI : (T : Int) < (J : Int) := by omega
                  go_wp2
                  go_quiet (fail)
                  go_wp2
                  go_roundw
                  case rel => exact ⟨T + 1, _, by omega, by go_num, rfl⟩
                  case measure => simp [intOf]; omega
                · go_wp2
                  go_ret
                  exact ⟨rfl, ⟨HB2.out.os, HB2.out.tape, HB2.out.output, HB2.out.size, HB2.out.block⟩⟩
            · clear hA
              go_wp2_with (first | (go_at_call 17; refine (want_any runs 0 k g1 _ (by omega) (by omega) (by omega) k0 k1 HG1.out).mono ?_; rintro e w' ⟨rfl, rfl⟩))
              refine (ready_once HR1.out (by omega) (by have := HRuns.out; omega) k0 k1 (runs : Int) (by have := HRuns.out; omega)).mono ?_
              rintro e W2 ⟨rfl, hR2, hG2⟩
              rw [HRuns.out]
              obtain ⟨g2, hg2⟩ : ∃ g2, groups runs fr2 k = g2 := ⟨_, rfl⟩
              have HG2 := Hid.mk (groups_want (by omega) k0 hg2)
              rw [hg2]
              clear hg2 c1 c2
              have c1 := hR2.base.cr
              rw [HRuns.out] at c1
              have c2 := hR2.base.cq
              have c3 := hR2.base.cp
              have c4 := hR2.base.ck
              have HP := Hid.mk hR2.base.pairs
              have HK := Hid.mk hR2.base.keep
              have HB2 := Hid.mk (below_two HB.out HGR.out hG2 hsz4 rfl)
              clear hR2 hG2
              go_wp2_with (first | (go_at_call 17; refine (want_any runs _ k g2 _ (by omega) (by omega) (by omega) k0 k1 (by have := HG2.out; omega)).mono ?_; rintro e w' ⟨rfl, rfl⟩))
              go_loopw [19] (fun i w3 => ∃ T q : Nat, T ≤ J ∧ i = .int .i64 (T : Nat) ∧ w3 = w'.drewN q) (fun i _ => J - (intOf i).toNat)
              case atStart => exact ⟨0, 0, Nat.zero_le _, rfl, rfl⟩
              case round =>
                obtain ⟨T, q, hT, rfl, rfl⟩ := hrel
                by_cases hTlt : T < J
                · obtain ⟨p0, p1, p2⟩ := HP.out T hTlt
                  obtain ⟨q0, q1, q2⟩ := HK.out T hTlt
                  have hTI : (T : Int) < (J : Int) := by omega
                  go_wp2
                  go_quiet (fail)
                  go_wp2
                  go_roundw
                  case rel => exact ⟨T + 1, _, by omega, by go_num, rfl⟩
                  case measure => simp [intOf]; omega
                · go_wp2
                  go_ret
                  exact ⟨rfl, ⟨HB2.out.os, HB2.out.tape, HB2.out.output, HB2.out.size, HB2.out.block⟩⟩
end Go.Proofs.Ybulkefbu.C
