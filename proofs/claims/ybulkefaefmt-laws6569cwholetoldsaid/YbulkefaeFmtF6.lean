/- LawS6569CWhole: the model reckons what is read. -/
import Derived.Test.YbulkefaeFmtF5
namespace Go.Proofs.YbulkefaeFmt
open Go.RowKit
set_option linter.unusedVariables false

theorem read_as {l : List UInt8} {N k st : Nat} (hr : rd l = (N, k, st)) (p : Option Addr) (c : Nat) (w : World) (h : Bytes w p l) (hl : l.length ≤ 140737488355328) :
    Calls Ybaf.prog 16 #[.slice p l.length c] w fun e w' => e = .returned (.tuple #[.int .u64 N, .int .i64 k, .int .i64 st]) ∧ w' = w := by
  refine (read_any p l c w h hl).mono ?_
  rintro e w' ⟨rfl, rfl⟩
  exact ⟨by unfold rdV; rw [hr], rfl⟩

theorem info9 : (Ybaf.prog.info? 9).map (fun i => (i.zero, i.size, i.bytes)) = some (some (.string ByteArray.empty), 1, 16) := by kernel_rfl

/-- v owns a row of the strings es, made since w. -/
def Strs (w wr : World) (v : Value) (es : List ByteArray) : Prop := wr.ownsRow w.heap.size 9 1 v es.length (es.map Value.string) ∧ Below w.heap.size w wr
theorem strs_nil (w : World) : Strs w w (.slice none 0 0) [] := ⟨World.ownsRow_nil _ _ _ _, Below.refl _ _⟩
theorem strs_keep {w wr w' : World} {v : Value} {es : List ByteArray} (h : Strs w wr v es) (hb : Below wr.heap.size wr w') : Strs w w' v es :=
  ⟨h.1.kept (row := none) ⟨hb.os, hb.tape, hb.output, hb.size, fun k hk _ => hb.block k hk⟩ (by
    cases hv : v.ownBlock with
    | none => exact Or.inl rfl
    | some k => exact Or.inr (by simp)), h.2.trans (hb.mono h.2.size)⟩
theorem strs_push {w wr w' : World} {v v' : Value} {es : List ByteArray} {x : ByteArray} (h : Strs w wr v es)
    (hown : w'.ownsRow w.heap.size 9 1 v' (es.length + 1) (es.map Value.string ++ [.string x])) (hg : (wr.alloc (.cells #[.string x] 9)).grownBy w' v.ownBlock) : Strs w w' v' (es ++ [x]) := by
  have hb : Below w.heap.size w (wr.alloc (.cells #[.string x] 9)) := h.2.alloc h.2.size _
  refine ⟨?_, hb.grown hg hb.size fun k hk => (h.1.lt k hk).1⟩
  rw [List.length_append, List.map_append]
  exact hown

theorem View.keep {w w' : World} {v : Value} {l : List UInt8} (h : View w v l) (hb : Below w.heap.size w w') : View w' v l := by
  obtain ⟨p, c, e, h1, r⟩ := h
  exact ⟨p, c, e, h1.keep hb, r⟩

/-- How the model ends. -/
def Modelled (w : World) (m : List ByteArray × List UInt8 × Nat) (e : Ending) (w' : World) : Prop :=
  ∃ vs vr, e = .returned (.tuple #[vs, vr, .int .i64 m.2.2]) ∧ Strs w w' vs m.1 ∧ (m.2.2 = 0 → View w vr m.2.1)

/-- Behind i rounds. -/
def Looped (w wr : World) (M : List ByteArray × List UInt8 × Nat) (N : Nat) (v0 v5 v9 v10 : Value) : Prop :=
  ∃ (i : Nat) (es : List ByteArray) (last : ByteArray) (l' : List UInt8), v10 = .int .u64 i ∧ v9 = .string last ∧ View w v0 l' ∧ Strs w wr v5 es ∧ i ≤ N ∧ es.length = i ∧ l'.length ≤ 4398046511104 ∧
    M = (es ++ (run (N - i) (i == 0) last l').1, (run (N - i) (i == 0) last l').2)

set_option maxHeartbeats 8000000 in
set_option maxRecDepth 100000 in
theorem model_any (p : Option Addr) (l : List UInt8) (c : Nat) (w : World) (h : Bytes w p l) (hc : l.length ≤ c) (hb : c ≤ 9223372036854775807) (hn : p = none → l = []) (hl : l.length ≤ 4398046511104) :
    Calls Ybaf.prog 8 #[.slice p l.length c] w (Modelled w (model l)) := by
  obtain ⟨i9, hi9, hh9⟩ := Option.map_eq_some_iff.1 info9
  simp only [Prod.mk.injEq] at hh9
  obtain ⟨hz9, hs9, hy9⟩ := hh9
  have H := Hid.mk h
  have HN := Hid.mk hn
  have hus := rd_used l
  have hst := rd_stat l
  have hNlt := rd_lt l
  have HM : Hid (model l = if (rd l).2.2 ≠ 0 then ([], [], (rd l).2.2) else if (l.drop (rd l).2.1).length < (rd l).1 then ([], [], 1) else run (rd l).1 true ⟨#[]⟩ (l.drop (rd l).2.1)) := rfl
  generalize model l = M at *
  obtain ⟨N, k, st, hr⟩ : ∃ N k st, rd l = (N, k, st) := ⟨_, _, _, rfl⟩
  have HR := Hid.mk hr
  rw [hr] at hus hst hNlt HM
  simp only at hus hst hNlt
  clear h hn hr
  by_cases h0 : st = 0
  · subst h0
    have hsl := fun w => slice_from w p l.length c k hus hc hb .i64
    have HV : Hid (View w (.slice (qFrom p c k) (l.length - k) (c - k)) (l.drop k)) := View.from_ H.out hc hb HN.out k hus
    have hdl : (l.drop k).length = l.length - k := List.length_drop
    by_cases hbig : l.length - k < N
    · have HM2 : Hid (M = ([], [], 1)) := by unfold Hid; rw [HM.out, if_neg (by simp), if_pos (by rw [hdl]; exact hbig)]
      have hbI : decide (((l.length - k : Nat) : Int) < (N : Int)) = true := by simp; omega
      clear HM hst
      go_enter Ybaf.func8, Ybaf.ntmps8
      go_wp2_with (first | (go_at_call 16; refine (read_as HR.out p c w H.out (by omega)).mono ?_; rintro e w2 ⟨rfl, hw2⟩; have hw3 := hw2.symm; clear hw2; subst hw3))
      go_ret3
      exact ⟨_, _, by rw [HM2.out]; rfl, by rw [HM2.out]; exact strs_nil w, by rw [HM2.out]; intro h; simp at h⟩
    · have HM2 : Hid (M = run N true ⟨#[]⟩ (l.drop k)) := by unfold Hid; rw [HM.out, if_neg (by simp), if_neg (by rw [hdl]; exact hbig)]
      have hbI : decide (((l.length - k : Nat) : Int) < (N : Int)) = false := by simp; omega
      clear HM hst
      go_enter Ybaf.func8, Ybaf.ntmps8
      go_wp2_with (first | (go_at_call 16; refine (read_as HR.out p c w H.out (by omega)).mono ?_; rintro e w2 ⟨rfl, hw2⟩; have hw3 := hw2.symm; clear hw2; subst hw3))
      go_loopw [0, 5, 9, 10] (fun v0 v5 v9 v10 wr => Looped w wr M N v0 v5 v9 v10) (fun _ _ _ v10 _ => N - (intOf v10).toNat)
      case atStart => exact ⟨0, [], ⟨#[]⟩, l.drop k, rfl, rfl, HV.out, strs_nil w, Nat.zero_le _, rfl, by omega, by rw [HM2.out]; rfl⟩
      case round =>
        obtain ⟨i, es, last, l', rfl, rfl, hV, hS, hiN, hes, hl', hM⟩ := hrel
        have HS := Hid.mk hS
        have HV2 := Hid.mk hV
        have HM3 := Hid.mk hM
        clear hS hV hM HV HM2 HR H HN hsl
        by_cases hlt : i < N
        · have hltI : decide ((i : Int) < (N : Int)) = true := by simp; omega
          have hV := HV2.out
          obtain ⟨p', c', rfl, hBy, hlc, hcc, hnn⟩ := hV
          have HBy : Hid (Bytes wr p' l') := hBy.keep HS.out.2
          have HBo := Hid.mk hBy
          have HNn := Hid.mk hnn
          clear hBy hnn
          obtain ⟨m, hm⟩ : ∃ m, N - i = m + 1 := ⟨N - i - 1, by omega⟩
          have hus := rd_used l'
          have hst := rd_stat l'
          have hNlt := rd_lt l'
          have HRun : Hid (run (N - i) (i == 0) last l' = run (m + 1) (i == 0) last l') := by unfold Hid; rw [hm]
          obtain ⟨v, k2, st, hr⟩ : ∃ v k2 st, rd l' = (v, k2, st) := ⟨_, _, _, rfl⟩
          have HR := Hid.mk hr
          rw [hr] at hus hst hNlt
          simp only at hus hst hNlt
          rw [run, hr] at HRun
          simp only at HRun
          clear hr
          by_cases h0 : st = 0
          · subst h0
            rw [if_neg (by simp)] at HRun
            have hs1 := fun w => slice_from w p' l'.length c' k2 hus hlc hcc .i64
            have hdl : (l'.drop k2).length = l'.length - k2 := List.length_drop
            by_cases hbig : l'.length - k2 < v
            · have HM4 : Hid (M = (es, [], 1)) := by unfold Hid; rw [HM3.out, HRun.out, if_pos (by rw [hdl]; exact hbig)]; simp
              have hbI2 : decide (((l'.length - k2 : Nat) : Int) < (v : Int)) = true := by simp; omega
              clear HRun hst HM3
              go_wp2_with (first | (go_at_call 16; refine (read_as HR.out p' c' wr HBy.out (by omega)).mono ?_; rintro e w2 ⟨rfl, hw2⟩; have hw3 := hw2.symm; clear hw2; subst hw3))
              go_ret3
              exact ⟨_, _, by rw [HM4.out]; rfl, by rw [HM4.out]; exact HS.out, by rw [HM4.out]; intro h; simp at h⟩
            · have hbI2 : decide (((l'.length - k2 : Nat) : Int) < (v : Int)) = false := by simp; omega
              rw [if_neg (by rw [hdl]; exact hbig)] at HRun
              have hs2 := fun w => slice_to w (qFrom p' c' k2) (l'.length - k2) (c' - k2) v (by omega) (by omega) (by omega) .u64
              have hs3 := fun w => slice_from w (qFrom p' c' k2) (l'.length - k2) (c' - k2) v (by omega) (by omega) (by omega) .u64
              have hV3 : View w (.slice (qFrom p' c' k2) (l'.length - k2) (c' - k2)) (l'.drop k2) := View.from_ HBo.out hlc hcc HNn.out k2 hus
              have HV4 : Hid (View w (.slice (qFrom (qFrom p' c' k2) (c' - k2) v) (l'.length - k2 - v) (c' - k2 - v)) ((l'.drop k2).drop v)) := by
                obtain ⟨p3, c3, e3, h31, h32, h33, h34⟩ := hV3
                simp only [Value.slice.injEq] at e3
                obtain ⟨rfl, e3, rfl⟩ := e3
                have := View.from_ h31 h32 h33 h34 v (by rw [hdl]; omega)
                rw [hdl] at this
                exact this
              have hcv : (convert 22 9 (.slice (qFrom p' c' k2) v (c' - k2))).run Ybaf.prog wr = .ok (.string (ofL ((l'.drop k2).take v))) wr := by
                have hlen : ((l'.drop k2).take v).length = v := by rw [List.length_take, hdl]; omega
                have := convert_back (c := c' - k2) ((HBy.out.from_ k2 hlc).to_ v) (fun hq => by
                  obtain ⟨p3, c3, e3, h31, h32, h33, h34⟩ := hV3
                  simp only [Value.slice.injEq] at e3
                  obtain ⟨rfl, _, _⟩ := e3
                  rw [h34 hq]; simp)
                rw [hlen] at this
                exact this
              have hxs : (ofL ((l'.drop k2).take v)).size ≤ 4398046511104 := by
                show ((l'.drop k2).take v).toArray.size ≤ _
                rw [List.size_toArray, List.length_take]
                omega
              have hl6 : ((l'.drop k2).drop v).length ≤ 4398046511104 := by rw [List.length_drop, hdl]; omega
              clear hV3 hst
              generalize ofL ((l'.drop k2).take v) = x at *
              generalize (l'.drop k2).drop v = l6 at *
              generalize Value.slice (qFrom (qFrom p' c' k2) (c' - k2) v) (l'.length - k2 - v) (c' - k2 - v) = v6 at *
              cases hval : validS x with
              | false =>
                have HM4 : Hid (M = (es, [], 2)) := by unfold Hid; rw [HM3.out, HRun.out, if_pos hval]; simp
                clear HRun HM3
                go_wp2_with (first | (go_at_call 16; refine (read_as HR.out p' c' wr HBy.out (by omega)).mono ?_; rintro e w2 ⟨rfl, hw2⟩; have hw3 := hw2.symm; clear hw2; subst hw3) | (go_at_call 17; refine (valid_any x wr (by omega)).mono ?_; rintro e w5 ⟨rfl, hb5⟩))
                go_ret3
                exact ⟨_, _, by rw [HM4.out]; rfl, by rw [HM4.out]; exact strs_keep HS.out hb5, by rw [HM4.out]; intro h; simp at h⟩
              | true =>
                rw [if_neg (by rw [hval]; simp)] at HRun
                by_cases hle : (!(i == 0) && leB x last) = true
                · have HM4 : Hid (M = (es, [], 2)) := by unfold Hid; rw [HM3.out, HRun.out, if_pos hle]; simp
                  have hi0 : decide (0 < i) = true := by
                    simp at hle; simp; omega
                  have hlx : (Op.bytesLess x.toList last.toList || x.toList == last.toList) = true := by
                    simp only [Bool.and_eq_true] at hle
                    exact hle.2
                  clear HRun HM3 hle
                  go_wp2_with (first | (go_at_call 16; refine (read_as HR.out p' c' wr HBy.out (by omega)).mono ?_; rintro e w2 ⟨rfl, hw2⟩; have hw3 := hw2.symm; clear hw2; subst hw3) | (go_at_call 17; refine (valid_any x wr (by omega)).mono ?_; rintro e w5 ⟨rfl, hb5⟩))
                  go_ret3
                  exact ⟨_, _, by rw [HM4.out]; rfl, by rw [HM4.out]; exact strs_keep HS.out hb5, by rw [HM4.out]; intro h; simp at h⟩
                · rw [if_neg hle] at HRun
                  have HM4 : Hid (M = (es ++ [x] ++ (run (N - (i + 1)) (i + 1 == 0) x l6).1, (run (N - (i + 1)) (i + 1 == 0) x l6).2)) := by
                    unfold Hid
                    rw [HM3.out, HRun.out, show N - (i + 1) = m by omega, show (i + 1 == 0) = false by simp]
                    simp
                  have HLE := Hid.mk hle
                  clear HRun HM3 hle
                  by_cases hi0 : i = 0
                  · have hi0I : decide (0 < i) = false := by simp; omega
                    have HI := Hid.mk hi0
                    clear hi0
                    go_wp2_with (first | (go_at_call 16; refine (read_as HR.out p' c' wr HBy.out (by omega)).mono ?_; rintro e w2 ⟨rfl, hw2⟩; have hw3 := hw2.symm; clear hw2; subst hw3) | (go_at_call 17; refine (valid_any x wr (by omega)).mono ?_; rintro e w5 ⟨rfl, hb5⟩; have HS5 := Hid.mk (strs_keep HS.out hb5); clear hb5) | (at_builtin; refine wpList_append_lies _ rfl _ _ _ rfl w.heap.size 9 i9 (.string ByteArray.empty) 1 16 Ybaf.underlying23 hi9 hz9 hs9 hy9 rfl (by omega) u5 es.length (es.map Value.string) (by rfl) (by exact (HS5.out.1.alloc _)) _ 1 1 [.string x] (by rfl) rfl (one_new _ _ _) (by simp [Value.oneCell']) (by omega) (by unfold maxLen; omega) (by omega) (by have := HS5.out.2.size; simp; omega) _ rfl ?_; intro g' cap' w6 hown hgrow hat hlt6; have HS6 := Hid.mk (strs_push HS5.out hown hgrow); clear hown hgrow hat hlt6))
                    go_roundw
                    case rel => exact ⟨i + 1, es ++ [x], x, l6, by go_num, rfl, HV4.out, by have := HS6.out; rw [hes] at this; exact this, by omega, by simp; omega, hl6, HM4.out⟩
                    case measure => simp [intOf]; omega
                  · have hi0I : decide (0 < i) = true := by simp; omega
                    have hlx : (Op.bytesLess x.toList last.toList || x.toList == last.toList) = false := by
                      have := HLE.out
                      simp only [show (i == 0) = false by simp; omega] at this
                      simpa [leB] using this
                    go_wp2_with (first | (go_at_call 16; refine (read_as HR.out p' c' wr HBy.out (by omega)).mono ?_; rintro e w2 ⟨rfl, hw2⟩; have hw3 := hw2.symm; clear hw2; subst hw3) | (go_at_call 17; refine (valid_any x wr (by omega)).mono ?_; rintro e w5 ⟨rfl, hb5⟩; have HS5 := Hid.mk (strs_keep HS.out hb5); clear hb5) | (at_builtin; refine wpList_append_lies _ rfl _ _ _ rfl w.heap.size 9 i9 (.string ByteArray.empty) 1 16 Ybaf.underlying23 hi9 hz9 hs9 hy9 rfl (by omega) u5 es.length (es.map Value.string) (by rfl) (by exact (HS5.out.1.alloc _)) _ 1 1 [.string x] (by rfl) rfl (one_new _ _ _) (by simp [Value.oneCell']) (by omega) (by unfold maxLen; omega) (by omega) (by have := HS5.out.2.size; simp; omega) _ rfl ?_; intro g' cap' w6 hown hgrow hat hlt6; have HS6 := Hid.mk (strs_push HS5.out hown hgrow); clear hown hgrow hat hlt6))
                    go_roundw
                    case rel => exact ⟨i + 1, es ++ [x], x, l6, by go_num, rfl, HV4.out, by have := HS6.out; rw [hes] at this; exact this, by omega, by simp; omega, hl6, HM4.out⟩
                    case measure => simp [intOf]; omega
          · have hsI : ((st : Int) == 0) = false := by rw [beq_eq_false_iff_ne]; omega
            have HM4 : Hid (M = (es, [], st)) := by unfold Hid; rw [HM3.out, HRun.out, if_pos h0]; simp
            clear HRun hst HM3
            go_wp2_with (first | (go_at_call 16; refine (read_as HR.out p' c' wr HBy.out (by omega)).mono ?_; rintro e w2 ⟨rfl, hw2⟩; have hw3 := hw2.symm; clear hw2; subst hw3))
            go_ret3
            exact ⟨_, _, by rw [HM4.out]; rfl, by rw [HM4.out]; exact HS.out, by rw [HM4.out]; intro h; exact absurd h h0⟩
        · have hltI : decide ((i : Int) < (N : Int)) = false := by simp; omega
          have HM4 : Hid (M = (es, l', 0)) := by unfold Hid; rw [HM3.out, show N - i = 0 by omega]; simp [run]
          go_wp2
          go_ret3
          exact ⟨_, _, by rw [HM4.out]; rfl, by rw [HM4.out]; exact HS.out, by rw [HM4.out]; intro _; exact HV2.out⟩
  · have HM2 : Hid (M = ([], [], st)) := by unfold Hid; rw [HM.out, if_pos h0]
    have hsI : ((st : Int) == 0) = false := by rw [beq_eq_false_iff_ne]; omega
    clear HM hst
    go_enter Ybaf.func8, Ybaf.ntmps8
    go_wp2_with (first | (go_at_call 16; refine (read_as HR.out p c w H.out (by omega)).mono ?_; rintro e w2 ⟨rfl, hw2⟩; have hw3 := hw2.symm; clear hw2; subst hw3))
    go_ret3
    exact ⟨_, _, by rw [HM2.out]; rfl, by rw [HM2.out]; exact strs_nil w, by rw [HM2.out]; intro h; exact absurd h h0⟩
end Go.Proofs.YbulkefaeFmt
