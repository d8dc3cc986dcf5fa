/- LawS6569CWhole: the law's walk, the bytes built from the elements and the tail. -/
import Derived.Test.YbulkefaeFmtF14
namespace Go.Proofs.YbulkefaeFmt
open Go.RowKit Go.Extern.Stop Go.Stop Go.Extern
set_option linter.unusedVariables false

set_option maxHeartbeats 4000000 in
set_option maxRecDepth 100000 in
theorem law_2 (F : Interp) (w : World) (a1 a2 : Addr) (p1 : Option Addr) (l1 : List UInt8) (c1 : Nat) (p2 : Option Addr) (ss : List ByteArray) (c2 : Nat) (p3 : Option Addr) (l3 : List UInt8) (c3 : Nat) (m : Int)
    (hF : F.answers w.tape) (hT : Lib.WhiteTab 1 w) (hS : Sent w a1 a2) (ha : a2 ≠ a1) (hp1 : PlainAt w a1.block) (hp2 : PlainAt w a2.block) (h1 : BArg w p1 l1 c1) (h2 : SArg w p2 ss) (h3 : BArg w p3 l3 c3) (hl1 : l1.length ≤ 140737488355328) (hl3 : l3.length ≤ 140737488355328)
    (hm0 : 0 ≤ m) (hm1 : m ≤ 255) (hm : m % 3 = 2) :
    Calls Ybaf.prog 3 #[.slice p1 l1.length c1, .slice p2 ss.length c2, .slice p3 l3.length c3, .int .u8 m] w fun e w' => e = .returned (.bool true) ∧ Below w.heap.size w w' := by
  have HF := Hid.mk hF
  have HT := Hid.mk hT
  have HS := Hid.mk hS
  have HA := Hid.mk ha
  have HP1 := Hid.mk hp1
  have HP2 := Hid.mk hp2
  have HA1 := Hid.mk hp1.lt
  have H1 := Hid.mk h1
  have H2 := Hid.mk h2
  have H3 := Hid.mk h3
  have hls := h2.len
  clear hF hT hS ha hp1 hp2 h1 h2 h3
  obtain ⟨i5, hi5, hh5⟩ := Option.map_eq_some_iff.1 info5
  simp only [Prod.mk.injEq] at hh5
  obtain ⟨hz5, hs5, hy5⟩ := hh5
  by_cases hbig : 1048576 < l1.length + l3.length
  · have hbI : decide ((1048576 : Int) < (l1.length : Int) + (l3.length : Int)) = true := by simp; omega
    go_enter Ybaf.func3, Ybaf.ntmps3
    go_wp2
    go_ret
    exact ⟨rfl, Below.refl _ _⟩
  · have hbI : decide ((1048576 : Int) < (l1.length : Int) + (l3.length : Int)) = false := by simp; omega
    by_cases hbig2 : 1048576 < ss.length
    · have hbI2 : decide ((1048576 : Int) < (ss.length : Int)) = true := by simp; omega
      go_enter Ybaf.func3, Ybaf.ntmps3
      go_wp2
      go_ret
      exact ⟨rfl, Below.refl _ _⟩
    · have hbI2 : decide ((1048576 : Int) < (ss.length : Int)) = false := by simp; omega
      go_enter Ybaf.func3, Ybaf.ntmps3
      go_wp2
      go_loop [9, 43] (fun t i => ∃ k : Nat, k ≤ ss.length ∧ i = .int .i64 k ∧ t = .int .i64 (totl (l1.length + l3.length) ss k) ∧ totl (l1.length + l3.length) ss k ≤ 1048576) (fun _ i => ss.length - (intOf i).toNat)
      case atStart => exact ⟨0, Nat.zero_le _, rfl, by simp [totl], by simp [totl]; omega⟩
      case round =>
        obtain ⟨k, hk, rfl, rfl, ht⟩ := hrel
        by_cases hlt : k < ss.length
        · obtain ⟨b, o, rfl, hcc⟩ := H2.out.lies (by omega)
          have cc1 := hcc k hlt
          have hkI : (k : Int) < (ss.length : Int) := by omega
          have hsz := H2.out.each k hlt
          have HTt : Hid (totl (l1.length + l3.length) ss (k + 1) = totl (l1.length + l3.length) ss k + (ss.getD k ByteArray.empty).size) := rfl
          generalize totl (l1.length + l3.length) ss k = t at *
          generalize ss.getD k ByteArray.empty = x at *
          clear hcc
          by_cases hgt : t + x.size ≤ 1048576
          · have hg : decide ((1048576 : Int) < (t : Int) + (x.size : Int)) = false := by simp; omega
            go_wp2
            go_round
            case rel => exact ⟨k + 1, by omega, by go_num, by rw [HTt.out]; go_num, by rw [HTt.out]; exact hgt⟩
            case measure => simp [intOf]; omega
          · have hg : decide ((1048576 : Int) < (t : Int) + (x.size : Int)) = true := by simp; omega
            go_wp2
            go_ret
            exact ⟨rfl, Below.refl _ _⟩
        · obtain rfl : k = ss.length := by omega
          have hge : decide ((ss.length : Int) < (ss.length : Int)) = false := by simp
          have HTt := Hid.mk ht
          clear ht hlt hk
          have hss : ss.length ≤ 1048576 := by omega
          have HShS : Hid (∀ t ∈ ss, t.size ≤ 1048576) := by
            intro t ht
            obtain ⟨j, hj, rfl⟩ := List.mem_iff_getElem.1 ht
            have := Nat.le_trans (totl_each (l1.length + l3.length) ss j hj) HTt.out
            simpa [List.getD, hj] using this
          go_wp2_with (first | (go_at_call 4; refine (sclone_any p2 ss c2 w H2.out.lies H2.out.pn hss).mono ?_; rintro e wc ⟨vc, rfl, hsc⟩; have HSc := Hid.mk hsc; clear hsc) | (go_at_call 5; refine (sort_any w wc vc ss HSc.out hss).mono ?_; rintro e wS ⟨rfl, ts, hst, hlen, hmem⟩; obtain ⟨pe, ce, rfl, hsr⟩ := strs_row hst; have HRow := Hid.mk hsr; have HW1 := Hid.mk hst.2; have hts : ts.length ≤ 1048576 := (by omega); have HSh : Hid (Short ts) := (fun j hj => HShS.out _ (hmem _ (by simp [List.getD, hj]))); clear hst hsr hmem hlen) | (go_at_call 6; refine (uvarint_any wS wS (.slice none 0 0) [] ts.length (buf_nil wS) hts (by simp)).mono ?_; rintro e w6 ⟨v6, l6, rfl, hB6, hl6⟩; have HB6 := Hid.mk hB6; clear hB6))
          simp only [List.length_nil, Nat.zero_add] at hl6
          go_loopw [12, 72] (fun v12 v72 wr => ∃ (k : Nat) (lb : List UInt8), k ≤ ts.length ∧ v72 = .int .i64 k ∧ Buf wS wr v12 lb ∧ lb.length ≤ 1048577 + k * 2097153) (fun _ v72 _ => ts.length - (intOf v72).toNat)
          case atStart => exact ⟨0, l6, Nat.zero_le _, rfl, HB6.out, by omega⟩
          case round =>
          obtain ⟨k, lb, hk, rfl, hBuf, hlb⟩ := hrel
          have HBuf := Hid.mk hBuf
          clear hBuf HB6
          by_cases hlt : k < ts.length
          · obtain ⟨be, oe, rfl, hcc⟩ := HRow.out.keep HBuf.out.2 (by omega)
            have cc1 := hcc k hlt
            have hkI : (k : Int) < (ts.length : Int) := by omega
            have hsz := HSh.out k hlt
            generalize ts.getD k ByteArray.empty = x at *
            clear hcc
            go_wp2_with (first | (at_builtin; refine Lib.wpList_append_own_string _ rfl _ _ _ _ rfl wS.heap.size 5 i5 Ybaf.underlying22 Ybaf.underlying9 hi5 hz5 hs5 hy5 v7 l7.length (Lib.byteCells l7) (by rfl) HB7.out.1 x (by rfl) (by unfold maxLen; omega) (by omega) HB7.out.2.size ?_; intro v8 w8 hown hgrow _; have HB8 := Hid.mk (buf_app HB7.out hown hgrow); clear hown hgrow) | (go_at_call 6; refine (uvarint_any wS wr u12 lb x.size HBuf.out hsz (by omega)).mono ?_; rintro e w7 ⟨v7, l7, rfl, hB7, hl7⟩; have HB7 := Hid.mk hB7; clear hB7))
            go_roundw
            case rel => exact ⟨k + 1, _, by omega, by go_num, HB8.out, by simp; omega⟩
            case measure => simp [intOf]; omega
          have hge2 : decide ((k : Int) < (ts.length : Int)) = false := by simp; omega
          have HBy3 : Hid (Bytes wr p3 l3) := (H3.out.lies.keep HW1.out).keep HBuf.out.2
          obtain ⟨vt, W, hrun, hBt⟩ := tail_run HBuf.out HBy3.out H3.out.pn H3.out.pc (by omega) 22
          have hlf : (lb ++ l3).length ≤ 4398046511104 := by rw [List.length_append]; omega
          have HBt := Hid.mk hBt
          clear hBt
          generalize lb ++ l3 = lf at *
          obtain ⟨pb, cb, rfl, hbb, hlc, hcc, hpn, _⟩ := buf_bytes HBt.out
          have HBy := Hid.mk hbb
          have HPn := Hid.mk hpn
          have HBW : Hid (Below w.heap.size w W) := HW1.out.trans (HBt.out.2.mono HW1.out.size)
          unfold maxLen at hcc
          have hl : lf.length ≤ 4398046511104 := hlf
          clear hbb hpn
          have HRun := Hid.mk hrun
          clear hrun
          obtain ⟨es, rest, cls, hmod⟩ : ∃ es rest cls, model lf = (es, rest, cls) := ⟨_, _, _, rfl⟩
          have HMod := Hid.mk hmod
          clear hmod
          go_wp2_with (first | (at_builtin; refine wpList_append_run rfl _ _ 22 22 22 rfl rfl u12 (.slice p3 l3.length c3) (.slice pb lf.length cb) (by rfl) (by rfl) HRun.out ?_) | (go_at_call 7; refine (clone_any pb lf cb W HBy.out HPn.out (by omega)).mono ?_; rintro e w1 ⟨q, d, rfl, hq1, hq2, hq3, hq4, hq5, hq6⟩; have HQ := Hid.mk hq1; have HQn := Hid.mk hq4; have HB1 := Hid.mk hq6; clear hq1 hq4 hq5 hq6) | (go_at_call 8; refine (model_any q lf d w1 HQ.out hq2 hq3 HQn.out hl).mono ?_; rintro e w2 hmod; rw [HMod.out] at hmod; obtain ⟨vs, vr, rfl, hs2, hv2⟩ := hmod; obtain ⟨pv, cv, rfl, hsr⟩ := strs_row hs2; have HSr := Hid.mk hsr; have HV2 := Hid.mk hv2; have HB2 := Hid.mk hs2.2; clear hs2 hv2 hsr) | (go_at_call 9; refine (new_any pb lf.length cb w2).mono ?_; rintro e w3 ⟨rfl, hd3, hb3⟩; have HBW1 := Hid.mk (HBW.out.trans (HB1.out.mono HBW.out.size)); have HBW2 := Hid.mk (HBW1.out.trans (HB2.out.mono HBW1.out.size)); have HBW3 := Hid.mk (HBW2.out.trans (hb3.mono HBW2.out.size)); have HBy2 := Hid.mk ((HBy.out.keep HB1.out).keep HB2.out); have HQ2 := Hid.mk (HQ.out.keep HB2.out); have HR3 := Hid.mk (ready_new HS.out HBW2.out HBy2.out hlc hcc HPn.out hd3 hb3); have HB3 := Hid.mk hb3; clear hd3 hb3) | (go_at_call 10; refine (elements_any F w w3 w2.heap.size pb lf cb a1 a2 HF.out HT.out HBW3.out HBW2.out.size HR3.out (HR3.out.lies.block) HA.out HP2.out (Nat.lt_of_lt_of_le HA1.out HBW3.out.size) hl).mono ?_; rintro e w4 ⟨rfl, hE⟩; rw [HMod.out] at hE; have HE := Hid.mk hE; have HBy4 := Hid.mk (HBy2.out.through HB3.out hE.2.1); have HQ4 := Hid.mk (HQ2.out.through HB3.out hE.2.1); clear hE) | (go_at_call 11; refine (equal_any pb q lf cb d w4 HBy4.out HQ4.out).mono ?_; rintro e w5 ⟨rfl, hw5⟩; have hw3 := hw5.symm; clear hw5; subst hw3))
          have HSz : Hid (∀ x ∈ es, x.size ≤ lf.length) := by
            have := model_sizes lf
            rw [HMod.out] at this
            exact this
          have hesl : es.length ≤ 4398046511104 := by
            have := model_len lf
            rw [HMod.out] at this
            exact Nat.le_trans this hl
          have HSet4 : Hid (SetAt w4 w3.heap.size es) := HE.out.1
          have HSr4 : Hid (StrRow w4 pv es) := HSr.out.through HB3.out HE.out.2.1
          have HBW4 : Hid (Below w.heap.size w w4) := HBW3.out.grown HE.out.2.1 HBW3.out.size (fun k hk => by simp at hk; have := HBW2.out.size; omega)
          have g1 : w4.cell? ⟨0, 0, none⟩ = some (.iface 87 (.pointer (some a1))) := (sent_below HS.out HBW4.out).1
          have hlenm := fun ty => set_len HSet4.out ty
          have hmn := map_nil
          rcases HE.out.2.2 with ⟨hc0, p', c', hRy⟩ | ⟨hc1, vb, hdec⟩ | ⟨hc2, vb, kx, hdec, hne, hplx⟩
          · have hc0' : cls = 0 := hc0
            subst hc0'
            have hVr := HV2.out rfl
            obtain ⟨pr, cr, rfl, hbr, hrc, hrcc, hrn⟩ := hVr
            have HPr2 : Hid (Bytes w2 pr rest) := hbr.keep HB2.out
            have HPr4 : Hid (Bytes w4 pr rest) := HPr2.out.through HB3.out HE.out.2.1
            have hRy' : Ready w4 w2.heap.size p' rest c' a1 a2 := hRy
            have HRy := Hid.mk hRy'
            have hrc' := hRy'.hc
            have hrcc' := hRy'.hcc
            clear hRy hRy' hbr hc0
            refine (err_any w2.heap.size _ _ w4 HRy.out.dec (Or.inl rfl)).mono ?_
            rintro e w5 ⟨rfl, hw5⟩
            have hw6 := hw5.symm
            clear hw5
            subst hw6
            go_wp2
            go_loopw [125] (fun i wr => ∃ k : Nat, k ≤ es.length ∧ i = .int .i64 k ∧ Below w4.heap.size w4 wr) (fun i _ => es.length - (intOf i).toNat)
            case atStart => exact ⟨0, Nat.zero_le _, rfl, Below.refl _ _⟩
            case round =>
              obtain ⟨k, hk, rfl, hBr⟩ := hrel
              have HBr := Hid.mk hBr
              clear hBr
              by_cases hlt : k < es.length
              · obtain ⟨bv, ov, rfl, hcv⟩ := HSr4.out.keep HBr.out (by omega)
                have cv1 := hcv k hlt
                have hkI : (k : Int) < (es.length : Int) := by omega
                have hmem : es.getD k ByteArray.empty ∈ es := by simp [List.getD, hlt]
                have hlk := set_look (HSet4.out.keep (grown_of_below HBr.out) (by simp)) hmem (by have := HSz.out _ hmem; omega)
                generalize es.getD k ByteArray.empty = x at *
                clear hcv hmem
                go_wp2
                go_roundw
                case rel => exact ⟨k + 1, by omega, by go_num, HBr.out.alloc HBr.out.size _⟩
                case measure => simp [intOf]; omega
              · have hge2 : decide ((k : Int) < (es.length : Int)) = false := by simp; omega
                have HRr := Hid.mk (HRy.out.keep HBr.out)
                have HPrr := Hid.mk (HPr4.out.keep HBr.out)
                have HPrD : Hid (0 < rest.length → ∀ x, pr = some x → x.block ≠ w2.heap.size) := fun h0 x hx => by have := HPr2.out.block h0 x hx; omega
                have HBWr := Hid.mk (HBW4.out.trans (HBr.out.mono HBW4.out.size))
                go_wp2_with (first | (go_at_call 13; refine (bytes_short w2.heap.size (qFrom p' c' rest.length) (rest.length - rest.length) (c' - rest.length) 1 a1 a2 w6 HM6.out.1 HS6.out (by omega) (by omega) (by omega) (by omega)).mono ?_; rintro e w7 ⟨rfl, hM7⟩; have HM7 := Hid.mk hM7; have g7 := (sent_grown HS6.out hM7.2 HRr.out.hD).1; have HBW7 := Hid.mk (HBW6.out.grown hM7.2 HBW6.out.size (fun k hk => by simp at hk; have := HBW2.out.size; omega)); clear hM7) | (go_at_call 13; refine (bytes_ok w2.heap.size p' rest.length c' rest.length wr HRr.out.dec (Nat.le_refl _) hrc' hrcc').mono ?_; rintro e w6 ⟨rfl, hM6⟩; have HM6 := Hid.mk hM6; have HB61 := Hid.mk (grown_bytes hM6.2 HRr.out.lies HRr.out.pD); have HB62 := Hid.mk (grown_bytes hM6.2 HPrr.out HPrD.out); have HS6 := Hid.mk (sent_grown HRr.out.sent hM6.2 HRr.out.hD); have HBW6 := Hid.mk (HBWr.out.grown hM6.2 HBWr.out.size (fun k hk => by simp at hk; have := HBW2.out.size; omega)); clear hM6) | (go_at_call 12; refine (err_any w2.heap.size _ .nilIface w6 HM6.out.1 (Or.inl rfl)).mono ?_; rintro e w6b ⟨rfl, hw6b⟩; have hw3 := hw6b.symm; clear hw6b; subst hw3) | (go_at_call 11; refine (equal_any p' pr rest rest.length cr w6 HB61.out HB62.out).mono ?_; rintro e w6b ⟨rfl, hw6b⟩; have hw3 := hw6b.symm; clear hw6b; subst hw3))
                have hneq := fun w => neq_same w a1
                go_quiet ((go_at_call 12; exact Calls.quiet_of_same (err_any w2.heap.size _ (.iface 87 (.pointer (some a1))) _ HM7.out.1 (Or.inr ⟨a1, rfl⟩))))
                go_wp2
                go_ret
                exact ⟨rfl, ⟨HBW7.out.os, HBW7.out.tape, HBW7.out.output, HBW7.out.size, HBW7.out.block⟩⟩
          · have hc1' : cls = 1 := hc1
            subst hc1'
            have HDec := Hid.mk hdec
            clear hdec hc1
            refine (err_any w2.heap.size vb _ w4 HDec.out (Or.inr ⟨a1, rfl⟩)).mono ?_
            rintro e w5 ⟨rfl, hw5⟩
            have hw6 := hw5.symm
            clear hw5
            subst hw6
            have heq := fun w => eq_same w a1
            go_wp2
            go_loopw [125] (fun i wr => ∃ k : Nat, k ≤ es.length ∧ i = .int .i64 k ∧ Below w4.heap.size w4 wr) (fun i _ => es.length - (intOf i).toNat)
            case atStart => exact ⟨0, Nat.zero_le _, rfl, Below.refl _ _⟩
            case round =>
              obtain ⟨k, hk, rfl, hBr⟩ := hrel
              have HBr := Hid.mk hBr
              clear hBr
              by_cases hlt : k < es.length
              · obtain ⟨bv, ov, rfl, hcv⟩ := HSr4.out.keep HBr.out (by omega)
                have cv1 := hcv k hlt
                have hkI : (k : Int) < (es.length : Int) := by omega
                have hmem : es.getD k ByteArray.empty ∈ es := by simp [List.getD, hlt]
                have hlk := set_look (HSet4.out.keep (grown_of_below HBr.out) (by simp)) hmem (by have := HSz.out _ hmem; omega)
                generalize es.getD k ByteArray.empty = x at *
                clear hcv hmem
                go_wp2
                go_roundw
                case rel => exact ⟨k + 1, by omega, by go_num, HBr.out.alloc HBr.out.size _⟩
                case measure => simp [intOf]; omega
              · have hge2 : decide ((k : Int) < (es.length : Int)) = false := by simp; omega
                go_wp2
                go_ret
                exact ⟨rfl, HBW4.out.trans (HBr.out.mono HBW4.out.size)⟩
          · have hc2' : cls = 2 := hc2
            subst hc2'
            have HDec := Hid.mk hdec
            clear hdec hc2
            refine (err_any w2.heap.size vb _ w4 HDec.out (Or.inr ⟨kx, rfl⟩)).mono ?_
            rintro e w5 ⟨rfl, hw5⟩
            have hw6 := hw5.symm
            clear hw5
            subst hw6
            have heq := eq_other hne hplx (HP1.out.same (HBW4.out.block _ HP1.out.lt))
            clear hplx hne
            go_wp2
            go_loopw [125] (fun i wr => ∃ k : Nat, k ≤ es.length ∧ i = .int .i64 k ∧ Below w4.heap.size w4 wr) (fun i _ => es.length - (intOf i).toNat)
            case atStart => exact ⟨0, Nat.zero_le _, rfl, Below.refl _ _⟩
            case round =>
              obtain ⟨k, hk, rfl, hBr⟩ := hrel
              have HBr := Hid.mk hBr
              clear hBr
              by_cases hlt : k < es.length
              · obtain ⟨bv, ov, rfl, hcv⟩ := HSr4.out.keep HBr.out (by omega)
                have cv1 := hcv k hlt
                have hkI : (k : Int) < (es.length : Int) := by omega
                have hmem : es.getD k ByteArray.empty ∈ es := by simp [List.getD, hlt]
                have hlk := set_look (HSet4.out.keep (grown_of_below HBr.out) (by simp)) hmem (by have := HSz.out _ hmem; omega)
                generalize es.getD k ByteArray.empty = x at *
                clear hcv hmem
                go_wp2
                go_roundw
                case rel => exact ⟨k + 1, by omega, by go_num, HBr.out.alloc HBr.out.size _⟩
                case measure => simp [intOf]; omega
              · have hge2 : decide ((k : Int) < (es.length : Int)) = false := by simp; omega
                go_wp2
                go_ret
                exact ⟨rfl, HBW4.out.trans (HBr.out.mono HBW4.out.size)⟩
end Go.Proofs.YbulkefaeFmt
