/- LawS6569CWhole: readEachElement, readElements. -/
import Derived.Test.YbulkefaeFmtF9
namespace Go.Proofs.YbulkefaeFmt
open Go.RowKit Go.Extern.Stop Go.Stop Go.Extern
set_option linter.unusedVariables false

/-- Behind i rounds. -/
def Round (w wr : World) (D M : Nat) (a1 a2 : Addr) (R : List ByteArray × List UInt8 × Nat) (N : Nat) (v5 v12 : Value) : Prop :=
  ∃ (i : Nat) (es : List ByteArray) (last : ByteArray) (p : Option Addr) (l : List UInt8) (c : Nat), v12 = .int .i64 i ∧ v5 = .string last ∧ Ready wr D p l c a1 a2 ∧ (0 < l.length → ∀ x, p = some x → x.block ≠ M) ∧ SetAt wr M es ∧ Fr w wr D M ∧
    i ≤ N ∧ es.length = i ∧ l.length ≤ 4398046511104 ∧ (∀ y ∈ es, leB y last = true) ∧ R = (es ++ (run (N - i) (i == 0) last l).1, (run (N - i) (i == 0) last l).2)

set_option maxHeartbeats 8000000 in
set_option maxRecDepth 100000 in
theorem each_any (F : Interp) (w0 w : World) (D M V : Nat) (p : Option Addr) (l : List UInt8) (c : Nat) (a1 a2 : Addr) (hF : F.answers w0.tape) (hT : Lib.WhiteTab 1 w0) (h0 : Below w0.heap.size w0 w) (hD : w0.heap.size ≤ D) (hDM : D < M) (hMV : M < V)
    (hv : w.cell? ⟨V, 0, none⟩ = some (.map (some M))) (hS : SetAt w M []) (hR : Ready w D p l c a1 a2) (hpM : 0 < l.length → ∀ x, p = some x → x.block ≠ M) (ha : a2 ≠ a1) (hp2 : PlainAt w0 a2.block) (ha1 : a1.block < w.heap.size) (hl : l.length ≤ 4398046511104) :
    Calls Ybaf.prog 18 #[.pointer (some ⟨D, 0, none⟩), .func (.func 19) #[] #[.pointer (some ⟨V, 0, none⟩)]] w fun e w' => e = .returned (.tuple #[]) ∧ Read w w' D M a1 a2 (model l) := by
  have HF := Hid.mk hF
  have HT := Hid.mk hT
  have H0 := Hid.mk h0
  have HV := Hid.mk hv
  have HS := Hid.mk hS
  have HR := Hid.mk hR
  have HP := Hid.mk hpM
  have HA := Hid.mk ha
  have HA1 := Hid.mk ha1
  have HP2 : Hid (∀ w2, Fr w w2 D M → PlainAt w2 a2.block) := fun w2 hf => hp2.same ((Fr.below h0 hf hD (by omega)).block _ hp2.lt)
  have hDw := hR.dec.lt
  have hus := rd_used l
  have hst := rd_stat l
  have HM : Hid (model l = if (rd l).2.2 ≠ 0 then ([], [], (rd l).2.2) else if (l.drop (rd l).2.1).length < (rd l).1 then ([], [], 1) else run (rd l).1 true ⟨#[]⟩ (l.drop (rd l).2.1)) := rfl
  generalize model l = R at *
  obtain ⟨N, k, st, hr⟩ : ∃ N k st, rd l = (N, k, st) := ⟨_, _, _, rfl⟩
  have HRd := Hid.mk hr
  rw [hr] at hus hst HM
  simp only at hus hst
  have hdl : (l.drop k).length = l.length - k := List.length_drop
  clear hF hT h0 hv hS hR hpM ha ha1 hr hp2
  by_cases hz : st = 0
  · subst hz
    clear hst
    by_cases hbig : l.length - k < N
    · have HM2 : Hid (R = ([], [], 1)) := by unfold Hid; rw [HM.out, if_neg (by simp), if_pos (by rw [hdl]; exact hbig)]
      clear HM
      go_enter Ybaf.func18, Ybaf.ntmps18
      go_wp2_with (first | (go_at_call 32; refine (count_short HRd.out hbig D p c a1 a2 w HR.out).mono ?_; rintro e w2 ⟨rfl, vb, hM⟩; have HMv := Hid.mk hM; clear hM))
      go_loopw [12] (fun i wr => i = .int .i64 0 ∧ wr = w2) (fun _ _ => 0)
      case atStart => exact ⟨rfl, rfl⟩
      case round =>
        obtain ⟨rfl, rfl⟩ := hrel
        go_wp2
        go_end0
        exact ⟨rfl, read_fault HS.out (Fr.refl w D M) HMv.out (Or.inl rfl) HA.out (HP2.out _ (Fr.ofD M HMv.out.2)) (by omega) HM2.out⟩
    · have HM2 : Hid (R = run N true ⟨#[]⟩ (l.drop k)) := by unfold Hid; rw [HM.out, if_neg (by simp), if_neg (by rw [hdl]; exact hbig)]
      clear HM
      go_enter Ybaf.func18, Ybaf.ntmps18
      go_wp2_with (first | (go_at_call 32; refine (count_ok HRd.out (by omega) D p c a1 a2 w HR.out).mono ?_; rintro e w2 ⟨rfl, hR2, hG2⟩; have HR2 := Hid.mk hR2; have HG2 := Hid.mk hG2; clear hR2 hG2))
      go_loopw [5, 12] (fun v5 v12 wr => Round w wr D M a1 a2 R N v5 v12) (fun _ v12 _ => N - (intOf v12).toNat)
      case atStart => exact ⟨0, [], ⟨#[]⟩, qFrom p c k, l.drop k, c - k, rfl, rfl, HR2.out, fun h0 => qFrom_block (HP.out (by omega)), HS.out.keep HG2.out (by simp; omega), Fr.ofD M HG2.out, Nat.zero_le _, rfl, by omega, by simp, by rw [HM2.out]; rfl⟩
      case round =>
        obtain ⟨i, es, last, p', l', c', rfl, rfl, hRd, hp', hSt, hFr, hiN, hes, hl', hle, hR⟩ := hrel
        have HRy := Hid.mk hRd
        have HPy := Hid.mk hp'
        have HSt := Hid.mk hSt
        have HFr := Hid.mk hFr
        have HLe := Hid.mk hle
        have HRn := Hid.mk hR
        clear hRd hp' hSt hFr hle hR HM2 HR2 HG2 HRd HR HS HP
        by_cases hlt : i < N
        · have hltI : decide ((i : Int) < (N : Int)) = true := by simp; omega
          obtain ⟨m, hm⟩ : ∃ m, N - i = m + 1 := ⟨N - i - 1, by omega⟩
          have hus := rd_used l'
          have hst := rd_stat l'
          have HRun : Hid (run (N - i) (i == 0) last l' = run (m + 1) (i == 0) last l') := by unfold Hid; rw [hm]
          obtain ⟨v, k2, st, hr⟩ : ∃ v k2 st, rd l' = (v, k2, st) := ⟨_, _, _, rfl⟩
          have HRd := Hid.mk hr
          rw [hr] at hus hst
          simp only at hus hst
          rw [run, hr] at HRun
          simp only at HRun
          clear hr
          have hdl2 : (l'.drop k2).length = l'.length - k2 := List.length_drop
          by_cases h0 : st = 0
          · subst h0
            rw [if_neg (by simp)] at HRun
            by_cases hbig2 : l'.length - k2 < v
            · have HRn2 : Hid (R = (es, [], 1)) := by unfold Hid; rw [HRn.out, HRun.out, if_pos (by rw [hdl2]; exact hbig2)]; simp
              clear HRun HRn hst
              go_wp2_with (first | (go_at_call 33; refine (string_short HRd.out hbig2 D p' c' a1 a2 wr HRy.out).mono ?_; rintro e w2 ⟨rfl, vb, hM⟩; have HMv := Hid.mk hM; clear hM) | (go_at_call 12; refine (err_any D vb (.iface 87 (.pointer (some a1))) w2 (by exact HMv.out.1) (Or.inr ⟨a1, rfl⟩)).mono ?_; rintro e w2b ⟨rfl, hw2⟩; have hw3 := hw2.symm; clear hw2; subst hw3))
              go_returns
              exact ⟨rfl, read_fault HSt.out HFr.out HMv.out (Or.inl rfl) HA.out (HP2.out _ (HFr.out.trans (Fr.ofD M HMv.out.2))) (by omega) HRn2.out⟩
            · rw [if_neg (by rw [hdl2]; exact hbig2)] at HRun
              have hxs : (ofL ((l'.drop k2).take v)).size ≤ 4398046511104 := by
                show ((l'.drop k2).take v).toArray.size ≤ _
                rw [List.size_toArray, List.length_take]
                omega
              have hl6 : ((l'.drop k2).drop v).length ≤ 4398046511104 := by rw [List.length_drop, hdl2]; omega
              have hl6p : 0 < ((l'.drop k2).drop v).length → 0 < l'.length := fun h => by simp at h; omega
              clear hst
              generalize hx : ofL ((l'.drop k2).take v) = x at *
              generalize hl6e : (l'.drop k2).drop v = l6 at *
              have HX := Hid.mk hx
              have HL6 := Hid.mk hl6e
              clear hx hl6e
              cases hval : validS x with
              | false =>
                have HRn2 : Hid (R = (es, [], 2)) := by unfold Hid; rw [HRn.out, HRun.out, if_pos hval]; simp
                clear HRun HRn
                go_wp2_with (first | (go_at_call 33; refine (string_ok HRd.out (by omega) D p' c' a1 a2 wr HRy.out).mono ?_; rintro e w2 ⟨he2, hR2, hG2⟩; rw [HX.out] at he2; rw [HL6.out] at hR2; subst he2; have HR2 := Hid.mk hR2; have HFr2 := Hid.mk (HFr.out.trans (Fr.ofD M hG2)); have HB2 := Hid.mk (Fr.below H0.out HFr2.out hD (by omega)); have HS2 := Hid.mk (HSt.out.keep hG2 (by simp; omega)); clear hR2 hG2) | (go_at_call 12; refine (err_any D _ .nilIface w2 (by exact HR2.out.dec) (Or.inl rfl)).mono ?_; rintro e w2b ⟨rfl, hw2⟩; have hw3 := hw2.symm; clear hw2; subst hw3) | (go_at_call 34; refine (validate_any F x w2 (HB2.out.tape ▸ HF.out) (white_below HT.out HB2.out) (by omega)).mono ?_; rintro e w3 ⟨hj, hb3⟩; rw [if_neg (by rw [hval]; simp)] at hj; obtain ⟨kn, hj, hkn, hpl⟩ := hj; subst hj; have HPl := Hid.mk hpl; clear hpl; have HFr3 := Hid.mk (HFr2.out.trans (Fr.ofB D M hb3)); have HS3 := Hid.mk (HS2.out.keep (grown_of_below hb3) (by simp)); have HD3 := Hid.mk (HR2.out.dec.keep hb3); have hkw : w.heap.size ≤ kn := Nat.le_trans HFr2.out.size hkn; clear hb3) | (go_at_call 35; refine (fail_any D _ ⟨kn, 0, none⟩ w3 HD3.out).mono ?_; rintro e w4 ⟨rfl, hM4⟩; have HM4 := Hid.mk hM4; clear hM4))
                go_returns
                exact ⟨rfl, read_new (wr := wr) HS3.out HFr3.out HM4.out hkw HPl.out hDw HA1.out (by omega) HRn2.out⟩
              | true =>
                rw [if_neg (by rw [hval]; simp)] at HRun
                by_cases hle : (!(i == 0) && leB x last) = true
                · have HRn2 : Hid (R = (es, [], 2)) := by unfold Hid; rw [HRn.out, HRun.out, if_pos hle]; simp
                  have hi0 : decide (0 < i) = true := by
                    simp at hle; simp; omega
                  have hlx : (Op.bytesLess x.toList last.toList || x.toList == last.toList) = true := by
                    simp only [Bool.and_eq_true] at hle
                    exact hle.2
                  clear HRun HRn hle
                  go_wp2_with (first | (go_at_call 33; refine (string_ok HRd.out (by omega) D p' c' a1 a2 wr HRy.out).mono ?_; rintro e w2 ⟨he2, hR2, hG2⟩; rw [HX.out] at he2; rw [HL6.out] at hR2; subst he2; have HR2 := Hid.mk hR2; have HFr2 := Hid.mk (HFr.out.trans (Fr.ofD M hG2)); have HB2 := Hid.mk (Fr.below H0.out HFr2.out hD (by omega)); have HS2 := Hid.mk (HSt.out.keep hG2 (by simp; omega)); clear hR2 hG2) | (go_at_call 12; refine (err_any D _ .nilIface w2 (by exact HR2.out.dec) (Or.inl rfl)).mono ?_; rintro e w2b ⟨rfl, hw2⟩; have hw3 := hw2.symm; clear hw2; subst hw3) | (go_at_call 34; refine (validate_any F x w2 (HB2.out.tape ▸ HF.out) (white_below HT.out HB2.out) (by omega)).mono ?_; rintro e w3 ⟨hj, hb3⟩; rw [if_pos hval] at hj; subst hj; have HB3 := Hid.mk hb3; have HFr3 := Hid.mk (HFr2.out.trans (Fr.ofB D M hb3)); have HS3 := Hid.mk (HS2.out.keep (grown_of_below hb3) (by simp)); have HR3 := Hid.mk (HR2.out.keep hb3); have HT3 := Hid.mk (hb3.tape.trans HB2.out.tape); clear hb3) | (go_at_call 36; refine (errorf3 F x last w3.heap.size _ (by exact HT3.out ▸ HF.out) (two0 _ _ _ _) (two1 _ _ _ _)).mono ?_; rintro e w5 ⟨kn, rfl, hkn, hpl, hb5⟩; have HPl := Hid.mk hpl; clear hpl; have HA3 := Hid.mk ((Below.refl w3.heap.size w3).alloc (Nat.le_refl _) (.cells #[.iface 9 (.string x), .iface 9 (.string last)] 20)); have HB5 := Hid.mk (HA3.out.trans (hb5.mono HA3.out.size)); have HFr5 := Hid.mk (HFr3.out.trans (Fr.ofB D M HB5.out)); have HS5 := Hid.mk (HS3.out.keep (grown_of_below HB5.out) (by simp)); have HD5 := Hid.mk (HR3.out.dec.keep HB5.out); have hkw : w.heap.size ≤ kn := Nat.le_trans (Nat.le_trans HFr3.out.size HA3.out.size) hkn; clear hb5) | (go_at_call 35; refine (fail_any D _ ⟨kn, 0, none⟩ w5 HD5.out).mono ?_; rintro e w4 ⟨rfl, hM4⟩; have HM4 := Hid.mk hM4; clear hM4))
                  go_returns
                  exact ⟨rfl, read_new (wr := wr) HS5.out HFr5.out HM4.out hkw HPl.out hDw HA1.out (by omega) HRn2.out⟩
                · rw [if_neg hle] at HRun
                  have HRn2 : Hid (R = (es ++ [x] ++ (run (N - (i + 1)) (i + 1 == 0) x l6).1, (run (N - (i + 1)) (i + 1 == 0) x l6).2)) := by
                    unfold Hid
                    rw [HRn.out, HRun.out, show N - (i + 1) = m by omega, show (i + 1 == 0) = false by simp]
                    simp
                  have HNI : Hid (x ∉ es) := by
                    intro hx
                    apply hle
                    rw [HLe.out x hx]
                    cases es with
                    | nil => simp at hx
                    | cons a b => simp at hes; simp; omega
                  have HLe2 : Hid (∀ y ∈ es ++ [x], leB y x = true) := by
                    intro y hy
                    rcases List.mem_append.1 hy with hy | hy
                    · cases es with
                      | nil => simp at hy
                      | cons a b =>
                        simp at hes
                        refine leB_trans (HLe.out y hy) ?_
                        simp at hle
                        exact hle (by omega)
                    · simp at hy
                      rw [hy]; exact leB_refl x
                  have HLE := Hid.mk hle
                  clear HRun HRn hle
                  by_cases hi0 : i = 0
                  · have hi0I : decide (0 < i) = false := by simp; omega
                    have HI := Hid.mk hi0
                    clear hi0
                    go_wp2_with (first | (go_at_call 33; refine (string_ok HRd.out (by omega) D p' c' a1 a2 wr HRy.out).mono ?_; rintro e w2 ⟨he2, hR2, hG2⟩; rw [HX.out] at he2; rw [HL6.out] at hR2; subst he2; have HR2 := Hid.mk hR2; have HFr2 := Hid.mk (HFr.out.trans (Fr.ofD M hG2)); have HB2 := Hid.mk (Fr.below H0.out HFr2.out hD (by omega)); have HS2 := Hid.mk (HSt.out.keep hG2 (by simp; omega)); clear hR2 hG2) | (go_at_call 12; refine (err_any D _ .nilIface w2 (by exact HR2.out.dec) (Or.inl rfl)).mono ?_; rintro e w2b ⟨rfl, hw2⟩; have hw3 := hw2.symm; clear hw2; subst hw3) | (go_at_call 34; refine (validate_any F x w2 (HB2.out.tape ▸ HF.out) (white_below HT.out HB2.out) (by omega)).mono ?_; rintro e w3 ⟨hj, hb3⟩; rw [if_pos hval] at hj; subst hj; have HB3 := Hid.mk hb3; have HFr3 := Hid.mk (HFr2.out.trans (Fr.ofB D M hb3)); have HS3 := Hid.mk (HS2.out.keep (grown_of_below hb3) (by simp)); have HR3 := Hid.mk (HR2.out.keep hb3); have HT3 := Hid.mk (hb3.tape.trans HB2.out.tape); clear hb3) | (go_at_call 19; refine (take_any x V M es w3 (HFr3.out.cell HV.out (by simp; omega) (by simp; omega)) HS3.out HNI.out (by omega) hxs).mono ?_; rintro e w4 ⟨rfl, hS4, hG4⟩; have HS4 := Hid.mk hS4; have HG4 := Hid.mk hG4; clear hS4 hG4))
                    go_roundw
                    case rel => exact ⟨i + 1, es ++ [x], x, _, l6, _, by go_num, rfl, HR3.out.grown HG4.out hDM (fun h => qFrom_block (qFrom_block (HPy.out (hl6p h)))), fun h => qFrom_block (qFrom_block (HPy.out (hl6p h))), HS4.out, HFr3.out.trans (Fr.ofM D HG4.out), by omega, by simp; omega, hl6, HLe2.out, HRn2.out⟩
                    case measure => simp [intOf]; omega
                  · have hi0I : decide (0 < i) = true := by simp; omega
                    have hlx : (Op.bytesLess x.toList last.toList || x.toList == last.toList) = false := by
                      have := HLE.out
                      simp only [show (i == 0) = false by simp; omega] at this
                      simpa [leB] using this
                    go_wp2_with (first | (go_at_call 33; refine (string_ok HRd.out (by omega) D p' c' a1 a2 wr HRy.out).mono ?_; rintro e w2 ⟨he2, hR2, hG2⟩; rw [HX.out] at he2; rw [HL6.out] at hR2; subst he2; have HR2 := Hid.mk hR2; have HFr2 := Hid.mk (HFr.out.trans (Fr.ofD M hG2)); have HB2 := Hid.mk (Fr.below H0.out HFr2.out hD (by omega)); have HS2 := Hid.mk (HSt.out.keep hG2 (by simp; omega)); clear hR2 hG2) | (go_at_call 12; refine (err_any D _ .nilIface w2 (by exact HR2.out.dec) (Or.inl rfl)).mono ?_; rintro e w2b ⟨rfl, hw2⟩; have hw3 := hw2.symm; clear hw2; subst hw3) | (go_at_call 34; refine (validate_any F x w2 (HB2.out.tape ▸ HF.out) (white_below HT.out HB2.out) (by omega)).mono ?_; rintro e w3 ⟨hj, hb3⟩; rw [if_pos hval] at hj; subst hj; have HB3 := Hid.mk hb3; have HFr3 := Hid.mk (HFr2.out.trans (Fr.ofB D M hb3)); have HS3 := Hid.mk (HS2.out.keep (grown_of_below hb3) (by simp)); have HR3 := Hid.mk (HR2.out.keep hb3); have HT3 := Hid.mk (hb3.tape.trans HB2.out.tape); clear hb3) | (go_at_call 19; refine (take_any x V M es w3 (HFr3.out.cell HV.out (by simp; omega) (by simp; omega)) HS3.out HNI.out (by omega) hxs).mono ?_; rintro e w4 ⟨rfl, hS4, hG4⟩; have HS4 := Hid.mk hS4; have HG4 := Hid.mk hG4; clear hS4 hG4))
                    go_roundw
                    case rel => exact ⟨i + 1, es ++ [x], x, _, l6, _, by go_num, rfl, HR3.out.grown HG4.out hDM (fun h => qFrom_block (qFrom_block (HPy.out (hl6p h)))), fun h => qFrom_block (qFrom_block (HPy.out (hl6p h))), HS4.out, HFr3.out.trans (Fr.ofM D HG4.out), by omega, by simp; omega, hl6, HLe2.out, HRn2.out⟩
                    case measure => simp [intOf]; omega
          · have HRn2 : Hid (R = (es, [], st)) := by unfold Hid; rw [HRn.out, HRun.out, if_pos h0]; simp
            obtain ⟨kk, hkk⟩ := eOf_iface a1 a2 st
            have HK := Hid.mk hkk
            clear HRun HRn hkk
            go_wp2_with (first | (go_at_call 33; refine (string_bad HRd.out h0 D p' c' a1 a2 wr HRy.out).mono ?_; rintro e w2 ⟨rfl, vb, hM⟩; have HMv := Hid.mk hM; clear hM) | (go_at_call 12; refine (err_any D vb (.iface 87 (.pointer (some kk))) w2 (by have := HMv.out.1; rw [HK.out] at this; exact this) (Or.inr ⟨kk, rfl⟩)).mono ?_; rintro e w2b ⟨rfl, hw2⟩; have hw3 := hw2.symm; clear hw2; subst hw3))
            go_returns
            exact ⟨rfl, read_fault HSt.out HFr.out HMv.out (by omega) HA.out (HP2.out _ (HFr.out.trans (Fr.ofD M HMv.out.2))) (by omega) HRn2.out⟩
        · have hltI : decide ((i : Int) < (N : Int)) = false := by simp; omega
          have HRn2 : Hid (R = (es, l', 0)) := by unfold Hid; rw [HRn.out, show N - i = 0 by omega]; simp [run]
          go_wp2
          go_end0
          exact ⟨rfl, by rw [HRn2.out]; exact ⟨HSt.out, HFr.out, Or.inl ⟨rfl, p', c', HRy.out⟩⟩⟩
  · have HM2 : Hid (R = ([], [], st)) := by unfold Hid; rw [HM.out, if_pos hz]
    clear HM
    go_enter Ybaf.func18, Ybaf.ntmps18
    go_wp2_with (first | (go_at_call 32; refine (count_bad HRd.out hz D p c a1 a2 w HR.out).mono ?_; rintro e w2 ⟨rfl, vb, hM⟩; have HMv := Hid.mk hM; clear hM))
    go_loopw [12] (fun i wr => i = .int .i64 0 ∧ wr = w2) (fun _ _ => 0)
    case atStart => exact ⟨rfl, rfl⟩
    case round =>
      obtain ⟨rfl, rfl⟩ := hrel
      go_wp2
      go_end0
      exact ⟨rfl, read_fault HS.out (Fr.refl w D M) HMv.out (by omega) HA.out (HP2.out _ (Fr.ofD M HMv.out.2)) (by omega) HM2.out⟩
end Go.Proofs.YbulkefaeFmt
