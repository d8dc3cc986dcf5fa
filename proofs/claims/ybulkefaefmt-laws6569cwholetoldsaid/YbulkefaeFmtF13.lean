/- LawS6569CWhole: the law's walk. -/
import Derived.Test.YbulkefaeFmtF12
import Derived.Deep.QuietTactic
import Derived.BigQuiet
import Derived.LaidEql
namespace Go.Proofs.YbulkefaeFmt
open Go.RowKit Go.Extern.Stop Go.Stop Go.Extern
set_option linter.unusedVariables false

/-- A slice of bytes. -/
structure BArg (w : World) (p : Option Addr) (l : List UInt8) (c : Nat) : Prop where
  lies : Bytes w p l
  hc : l.length ≤ c
  hcc : c ≤ 9223372036854775807
  pn : p = none → l = []
  pc : p = none → c = 0
/-- A slice of strings. -/
structure SArg (w : World) (p : Option Addr) (ss : List ByteArray) : Prop where
  lies : StrRow w p ss
  pn : p = none → ss = []
  each : ∀ k, k < ss.length → (ss.getD k ByteArray.empty).size ≤ 140737488355328
  len : ss.length ≤ 140737488355328

/-- The law's sum. -/
def totl (b : Nat) (ss : List ByteArray) : Nat → Nat
  | 0 => b
  | k + 1 => totl b ss k + (ss.getD k ByteArray.empty).size
theorem totl_mono (b : Nat) (ss : List ByteArray) {j k : Nat} (h : j ≤ k) : totl b ss j ≤ totl b ss k := by
  induction k with
  | zero => obtain rfl : j = 0 := by omega
            exact Nat.le_refl _
  | succ k ih =>
    by_cases e : j = k + 1
    · subst e; exact Nat.le_refl _
    · have := ih (by omega); rw [totl]; omega
theorem totl_each (b : Nat) (ss : List ByteArray) (k : Nat) (h : k < ss.length) : (ss.getD k ByteArray.empty).size ≤ totl b ss ss.length := by
  have := totl_mono b ss (show k + 1 ≤ ss.length by omega)
  rw [totl] at this; omega


theorem strs_row {w wr : World} {v : Value} {es : List ByteArray} (h : Strs w wr v es) : ∃ p c, v = .slice p es.length c ∧ StrRow wr p es := by
  rcases h.1.2 with ⟨rfl, hn⟩ | ⟨g, cap, cur, rfl, hb, hg, h1, h2, h3, h4⟩
  · obtain rfl : es = [] := List.eq_nil_of_length_eq_zero hn
    exact ⟨none, 0, rfl, fun h => absurd h (Nat.lt_irrefl 0)⟩
  · refine ⟨_, _, rfl, fun _ => ⟨g, 0, rfl, fun j hj => ?_⟩⟩
    unfold World.cell?
    simp only [hg]
    have hj2 : (cur.toList.take (es.length * 1))[j]? = (es.map Value.string)[j]? := by rw [h4]
    rw [List.getElem?_take_of_lt (by omega)] at hj2
    simp only [Nat.zero_add]
    simpa [List.getD, hj] using hj2
theorem StrRow.keep {w w' : World} {p : Option Addr} {ss : List ByteArray} (h : StrRow w p ss) (hb : Below w.heap.size w w') : StrRow w' p ss := fun h0 => by
  obtain ⟨b, o, e, hc⟩ := h h0
  exact ⟨b, o, e, fun j hj => by rw [hb.cell (World.block_lt_of_cell? w _ (hc j hj)), hc j hj]⟩
/-- .. through a call that turns the block D, laid behind w2. -/
theorem StrRow.through {w2 w3 w4 : World} {p : Option Addr} {ss : List ByteArray} (h : StrRow w2 p ss) (hb : Below w2.heap.size w2 w3) (hg : w3.grownBy w4 (some w2.heap.size)) : StrRow w4 p ss := fun h0 => by
  obtain ⟨b, o, e, hc⟩ := h h0
  refine ⟨b, o, e, fun j hj => ?_⟩
  have hlt := World.block_lt_of_cell? w2 _ (hc j hj)
  have hlt' : b < w2.heap.size := hlt
  exact grown_cell hg (by rw [hb.cell hlt, hc j hj]) (show b ≠ w2.heap.size by omega)
theorem Bytes.through {w2 w3 w4 : World} {p : Option Addr} {l : List UInt8} (h : Bytes w2 p l) (hb : Below w2.heap.size w2 w3) (hg : w3.grownBy w4 (some w2.heap.size)) : Bytes w4 p l := fun h0 => by
  obtain ⟨b, o, e, hc⟩ := h h0
  refine ⟨b, o, e, fun j hj => ?_⟩
  have hlt := World.block_lt_of_cell? w2 _ (hc j hj)
  have hlt' : b < w2.heap.size := hlt
  exact grown_cell hg (by rw [hb.cell hlt, hc j hj]) (show b ≠ w2.heap.size by omega)
theorem Bytes.block {w : World} {p : Option Addr} {l : List UInt8} (h : Bytes w p l) : 0 < l.length → ∀ x, p = some x → x.block < w.heap.size := fun h0 x hx => by
  obtain ⟨b, o, e, hc⟩ := h h0
  rw [hx] at e
  simp at e; subst e
  exact World.block_lt_of_cell? w _ (hc 0 h0)
theorem sent_below {w w' : World} {a1 a2 : Addr} (h : Sent w a1 a2) (hb : Below w.heap.size w w') : Sent w' a1 a2 :=
  ⟨by rw [hb.cell (World.block_lt_of_cell? w _ h.1), h.1], by rw [hb.cell (World.block_lt_of_cell? w _ h.2), h.2]⟩
theorem sent_size {w : World} {a1 a2 : Addr} (h : Sent w a1 a2) : 2 < w.heap.size := World.block_lt_of_cell? w _ h.2

theorem ready_new {w w2 w3 : World} {p : Option Addr} {l : List UInt8} {c : Nat} {a1 a2 : Addr} (hs : Sent w a1 a2) (hw : Below w.heap.size w w2) (hb : Bytes w2 p l) (hc : l.length ≤ c) (hcc : c ≤ 9223372036854775807) (hn : p = none → l = [])
    (hd : Dec w3 w2.heap.size (.slice p l.length c) .nilIface) (h3 : Below w2.heap.size w2 w3) : Ready w3 w2.heap.size p l c a1 a2 :=
  ⟨hd, hb.keep h3, hc, hcc, hn, fun h0 x hx => by have := hb.block h0 x hx; omega, sent_below hs (hw.trans (h3.mono hw.size)), Nat.lt_of_lt_of_le (sent_size hs) hw.size⟩


theorem run_sizes : ∀ (n : Nat) (f : Bool) (last : ByteArray) (b : List UInt8), ∀ x ∈ (run n f last b).1, x.size ≤ b.length
  | 0, f, last, b => by simp [run]
  | n + 1, f, last, b => by
    intro x hx
    unfold run at hx
    split at hx
    · simp at hx
    · split at hx
      · simp at hx
      · split at hx
        · simp at hx
        · split at hx
          · simp at hx
          · rcases List.mem_cons.1 hx with rfl | hx
            · show ((b.drop (rd b).2.1).take (rd b).1).toArray.size ≤ _
              rw [List.size_toArray, List.length_take, List.length_drop]
              omega
            · have := run_sizes n _ _ _ x hx
              rw [List.length_drop, List.length_drop] at this
              omega
theorem run_len : ∀ (n : Nat) (f : Bool) (last : ByteArray) (b : List UInt8), (run n f last b).1.length ≤ n
  | 0, f, last, b => by simp [run]
  | n + 1, f, last, b => by
    unfold run
    split
    · simp
    · split
      · simp
      · split
        · simp
        · split
          · simp
          · have := run_len n false (ofL ((b.drop (rd b).2.1).take (rd b).1)) ((b.drop (rd b).2.1).drop (rd b).1)
            simp only [List.length_cons]
            omega
theorem model_len (l : List UInt8) : (model l).1.length ≤ l.length := by
  unfold model
  split
  · simp
  · split
    · simp
    · have := run_len (rd l).1 true ⟨#[]⟩ (l.drop (rd l).2.1)
      rename_i h
      rw [List.length_drop] at h
      omega
theorem model_sizes (l : List UInt8) : ∀ x ∈ (model l).1, x.size ≤ l.length := by
  intro x hx
  unfold model at hx
  split at hx
  · simp at hx
  · split at hx
    · simp at hx
    · have := run_sizes _ _ _ _ x hx
      rw [List.length_drop] at this
      omega

theorem zero39 (w : World) : (zeroValue 39).run Ybaf.prog w = .ok (.agg #[]) w := by kernel_rfl
theorem set_len {w : World} {M : Nat} {es : List ByteArray} (h : SetAt w M es) (ty : TypeId) : (Builtin.len_ #[33] ty #[.map (some M)]).run Ybaf.prog w = .ok (.int .i64 es.length) w := by
  obtain ⟨D, hD, hsz, _⟩ := h
  rw [hD.len und33 ty, hsz]
theorem set_look {w : World} {M : Nat} {es : List ByteArray} (h : SetAt w M es) {x : ByteArray} (hx : x ∈ es) (hs : x.size ≤ 4398046511104) : (Instr.lookup 33 (.map (some M)) (.string x) true).run Ybaf.prog w = .ok (.tuple #[.agg #[], .bool true]) w := by
  obtain ⟨D, hD, _, hh⟩ := h
  obtain ⟨v, ps, hr, hv⟩ := hD.look_ok key9 und33 (zero39 w) unitElem_mk (WideMaps.keyOf_string_mk Ybaf.underlying9 (s := x) (by unfold maxLen; omega))
  obtain ⟨rfl, _⟩ := unitElem_inv hv
  rw [hr, (hh x).2 hx]


theorem info87 : Ybaf.prog.info? 87 = some Ybaf.t87 := by kernel_rfl
theorem info89 : Ybaf.prog.info? 89 = some Ybaf.t89 := by kernel_rfl
theorem eq_same (w : World) (a : Addr) : (binOp .eql 37 (.iface 87 (.pointer (some a))) (.iface 87 (.pointer (some a)))).run Ybaf.prog w = .ok (.bool true) w :=
  run_eql_iface_ptr_same w a Ybaf.underlying37 Ybaf.underlying87 info87 rfl info89
theorem neq_same (w : World) (a : Addr) : (binOp .neq 37 (.iface 87 (.pointer (some a))) (.iface 87 (.pointer (some a)))).run Ybaf.prog w = .ok (.bool false) w := by
  simp only [binOp]
  simp [Op.equal, Op.maxDepth, run_equalIn_iface_ptr_same w 9998 a Ybaf.underlying37 Ybaf.underlying87 info87 rfl info89]
theorem eq_other {w : World} {a b : Addr} (hne : a ≠ b) (ha : PlainAt w a.block) (hb : PlainAt w b.block) : (binOp .eql 37 (.iface 87 (.pointer (some a))) (.iface 87 (.pointer (some b)))).run Ybaf.prog w = .ok (.bool false) w := by
  obtain ⟨c, t, ha⟩ := ha
  obtain ⟨c', t', hb⟩ := hb
  exact run_eql_iface_ptr_other w Ybaf.underlying37 Ybaf.underlying87 info87 rfl info89 (by decide) hne ha hb
theorem map_nil (w : World) (M : Nat) : (binOp .eql 33 (.map (some M)) (.map none)).run Ybaf.prog w = .ok (.bool false) w := by
  kernel_rfl

set_option maxHeartbeats 2000000 in
set_option maxRecDepth 100000 in
theorem law_0 (F : Interp) (w : World) (a1 a2 : Addr) (p1 : Option Addr) (l1 : List UInt8) (c1 : Nat) (p2 : Option Addr) (ss : List ByteArray) (c2 : Nat) (p3 : Option Addr) (l3 : List UInt8) (c3 : Nat) (m : Int)
    (hF : F.answers w.tape) (hT : Lib.WhiteTab 1 w) (hS : Sent w a1 a2) (ha : a2 ≠ a1) (hp1 : PlainAt w a1.block) (hp2 : PlainAt w a2.block) (h1 : BArg w p1 l1 c1) (h2 : SArg w p2 ss) (h3 : BArg w p3 l3 c3) (hl1 : l1.length ≤ 140737488355328) (hl3 : l3.length ≤ 140737488355328)
    (hm0 : 0 ≤ m) (hm1 : m ≤ 255) (hm : m % 3 = 0) :
    Calls Ybaf.prog 3 #[.slice p1 l1.length c1, .slice p2 ss.length c2, .slice p3 l3.length c3, .int .u8 m] w fun e w' => e = .returned (.bool true) ∧ Below w.heap.size w w' := by
  have HF := Hid.mk hF
  have HT := Hid.mk hT
  have HS := Hid.mk hS
  have HA := Hid.mk ha
  have HP1 := Hid.mk hp1
  have HP2 := Hid.mk hp2
  have HA1 := Hid.mk hp1.lt
  have H1 := Hid.mk h1
  have H2 := Hid.mk h2
  have H3 := Hid.mk h3
  have hls := h2.len
  clear hF hT hS ha hp1 hp2 h1 h2 h3
  by_cases hbig : 1048576 < l1.length + l3.length
  · have hbI : decide ((1048576 : Int) < (l1.length : Int) + (l3.length : Int)) = true := by simp; omega
    go_enter Ybaf.func3, Ybaf.ntmps3
    go_wp2
    go_ret
    exact ⟨rfl, Below.refl _ _⟩
  · have hbI : decide ((1048576 : Int) < (l1.length : Int) + (l3.length : Int)) = false := by simp; omega
    by_cases hbig2 : 1048576 < ss.length
    · have hbI2 : decide ((1048576 : Int) < (ss.length : Int)) = true := by simp; omega
      go_enter Ybaf.func3, Ybaf.ntmps3
      go_wp2
      go_ret
      exact ⟨rfl, Below.refl _ _⟩
    · have hbI2 : decide ((1048576 : Int) < (ss.length : Int)) = false := by simp; omega
      go_enter Ybaf.func3, Ybaf.ntmps3
      go_wp2
      go_loop [9, 43] (fun t i => ∃ k : Nat, k ≤ ss.length ∧ i = .int .i64 k ∧ t = .int .i64 (totl (l1.length + l3.length) ss k) ∧ totl (l1.length + l3.length) ss k ≤ 1048576) (fun _ i => ss.length - (intOf i).toNat)
      case atStart => exact ⟨0, Nat.zero_le _, rfl, by simp [totl], by simp [totl]; omega⟩
      case round =>
        obtain ⟨k, hk, rfl, rfl, ht⟩ := hrel
        by_cases hlt : k < ss.length
        · obtain ⟨b, o, rfl, hcc⟩ := H2.out.lies (by omega)
          have cc1 := hcc k hlt
          have hkI : (k : Int) < (ss.length : Int) := by omega
          have hsz := H2.out.each k hlt
          have HTt : Hid (totl (l1.length + l3.length) ss (k + 1) = totl (l1.length + l3.length) ss k + (ss.getD k ByteArray.empty).size) := rfl
          generalize totl (l1.length + l3.length) ss k = t at *
          generalize ss.getD k ByteArray.empty = x at *
          clear hcc
          by_cases hgt : t + x.size ≤ 1048576
          · have hg : decide ((1048576 : Int) < (t : Int) + (x.size : Int)) = false := by simp; omega
            go_wp2
            go_round
            case rel => exact ⟨k + 1, by omega, by go_num, by rw [HTt.out]; go_num, by rw [HTt.out]; exact hgt⟩
            case measure => simp [intOf]; omega
          · have hg : decide ((1048576 : Int) < (t : Int) + (x.size : Int)) = true := by simp; omega
            go_wp2
            go_ret
            exact ⟨rfl, Below.refl _ _⟩
        · obtain rfl : k = ss.length := by omega
          have hge : decide ((ss.length : Int) < (ss.length : Int)) = false := by simp
          have HTt := Hid.mk ht
          clear ht hlt hk
          have HBy : Hid (Bytes w p1 l1) := H1.out.lies
          have HPn : Hid (p1 = none → l1 = []) := H1.out.pn
          have hlc := H1.out.hc
          have hcc := H1.out.hcc
          have HBW : Hid (Below w.heap.size w w) := Below.refl _ _
          have hl : l1.length ≤ 4398046511104 := by omega
          obtain ⟨es, rest, cls, hmod⟩ : ∃ es rest cls, model l1 = (es, rest, cls) := ⟨_, _, _, rfl⟩
          have HMod := Hid.mk hmod
          clear hmod
          go_wp2_with (first | (go_at_call 7; refine (clone_any p1 l1 c1 w HBy.out HPn.out (by omega)).mono ?_; rintro e w1 ⟨q, d, rfl, hq1, hq2, hq3, hq4, hq5, hq6⟩; have HQ := Hid.mk hq1; have HQn := Hid.mk hq4; have HB1 := Hid.mk hq6; clear hq1 hq4 hq5 hq6) | (go_at_call 8; refine (model_any q l1 d w1 HQ.out hq2 hq3 HQn.out hl).mono ?_; rintro e w2 hmod; rw [HMod.out] at hmod; obtain ⟨vs, vr, rfl, hs2, hv2⟩ := hmod; obtain ⟨pv, cv, rfl, hsr⟩ := strs_row hs2; have HSr := Hid.mk hsr; have HV2 := Hid.mk hv2; have HB2 := Hid.mk hs2.2; clear hs2 hv2 hsr) | (go_at_call 9; refine (new_any p1 l1.length c1 w2).mono ?_; rintro e w3 ⟨rfl, hd3, hb3⟩; have HBW1 := Hid.mk (HBW.out.trans (HB1.out.mono HBW.out.size)); have HBW2 := Hid.mk (HBW1.out.trans (HB2.out.mono HBW1.out.size)); have HBW3 := Hid.mk (HBW2.out.trans (hb3.mono HBW2.out.size)); have HBy2 := Hid.mk ((HBy.out.keep HB1.out).keep HB2.out); have HQ2 := Hid.mk (HQ.out.keep HB2.out); have HR3 := Hid.mk (ready_new HS.out HBW2.out HBy2.out hlc hcc HPn.out hd3 hb3); have HB3 := Hid.mk hb3; clear hd3 hb3) | (go_at_call 10; refine (elements_any F w w3 w2.heap.size p1 l1 c1 a1 a2 HF.out HT.out HBW3.out HBW2.out.size HR3.out (HR3.out.lies.block) HA.out HP2.out (Nat.lt_of_lt_of_le HA1.out HBW3.out.size) hl).mono ?_; rintro e w4 ⟨rfl, hE⟩; rw [HMod.out] at hE; have HE := Hid.mk hE; have HBy4 := Hid.mk (HBy2.out.through HB3.out hE.2.1); have HQ4 := Hid.mk (HQ2.out.through HB3.out hE.2.1); clear hE) | (go_at_call 11; refine (equal_any p1 q l1 c1 d w4 HBy4.out HQ4.out).mono ?_; rintro e w5 ⟨rfl, hw5⟩; have hw3 := hw5.symm; clear hw5; subst hw3))
          have HSz : Hid (∀ x ∈ es, x.size ≤ l1.length) := by
            have := model_sizes l1
            rw [HMod.out] at this
            exact this
          have hesl : es.length ≤ 4398046511104 := by
            have := model_len l1
            rw [HMod.out] at this
            exact Nat.le_trans this hl
          have HSet4 : Hid (SetAt w4 w3.heap.size es) := HE.out.1
          have HSr4 : Hid (StrRow w4 pv es) := HSr.out.through HB3.out HE.out.2.1
          have HBW4 : Hid (Below w.heap.size w w4) := HBW3.out.grown HE.out.2.1 HBW3.out.size (fun k hk => by simp at hk; have := HBW2.out.size; omega)
          have g1 : w4.cell? ⟨0, 0, none⟩ = some (.iface 87 (.pointer (some a1))) := (sent_below HS.out HBW4.out).1
          have hlenm := fun ty => set_len HSet4.out ty
          have hmn := map_nil
          rcases HE.out.2.2 with ⟨hc0, p', c', hRy⟩ | ⟨hc1, vb, hdec⟩ | ⟨hc2, vb, kx, hdec, hne, hplx⟩
          · have hc0' : cls = 0 := hc0
            subst hc0'
            have hVr := HV2.out rfl
            obtain ⟨pr, cr, rfl, hbr, hrc, hrcc, hrn⟩ := hVr
            have HPr2 : Hid (Bytes w2 pr rest) := hbr.keep HB2.out
            have HPr4 : Hid (Bytes w4 pr rest) := HPr2.out.through HB3.out HE.out.2.1
            have hRy' : Ready w4 w2.heap.size p' rest c' a1 a2 := hRy
            have HRy := Hid.mk hRy'
            have hrc' := hRy'.hc
            have hrcc' := hRy'.hcc
            clear hRy hRy' hbr hc0
            refine (err_any w2.heap.size _ _ w4 HRy.out.dec (Or.inl rfl)).mono ?_
            rintro e w5 ⟨rfl, hw5⟩
            have hw6 := hw5.symm
            clear hw5
            subst hw6
            go_wp2
            go_loopw [125] (fun i wr => ∃ k : Nat, k ≤ es.length ∧ i = .int .i64 k ∧ Below w4.heap.size w4 wr) (fun i _ => es.length - (intOf i).toNat)
            case atStart => exact ⟨0, Nat.zero_le _, rfl, Below.refl _ _⟩
            case round =>
              obtain ⟨k, hk, rfl, hBr⟩ := hrel
              have HBr := Hid.mk hBr
              clear hBr
              by_cases hlt : k < es.length
              · obtain ⟨bv, ov, rfl, hcv⟩ := HSr4.out.keep HBr.out (by omega)
                have cv1 := hcv k hlt
                have hkI : (k : Int) < (es.length : Int) := by omega
                have hmem : es.getD k ByteArray.empty ∈ es := by simp [List.getD, hlt]
                have hlk := set_look (HSet4.out.keep (grown_of_below HBr.out) (by simp)) hmem (by have := HSz.out _ hmem; omega)
                generalize es.getD k ByteArray.empty = x at *
                clear hcv hmem
                go_wp2
                go_roundw
                case rel => exact ⟨k + 1, by omega, by go_num, HBr.out.alloc HBr.out.size _⟩
                case measure => simp [intOf]; omega
              · have hge2 : decide ((k : Int) < (es.length : Int)) = false := by simp; omega
                have HRr := Hid.mk (HRy.out.keep HBr.out)
                have HPrr := Hid.mk (HPr4.out.keep HBr.out)
                have HPrD : Hid (0 < rest.length → ∀ x, pr = some x → x.block ≠ w2.heap.size) := fun h0 x hx => by have := HPr2.out.block h0 x hx; omega
                have HBWr := Hid.mk (HBW4.out.trans (HBr.out.mono HBW4.out.size))
                go_wp2_with (first | (go_at_call 13; refine (bytes_short w2.heap.size (qFrom p' c' rest.length) (rest.length - rest.length) (c' - rest.length) 1 a1 a2 w6 HM6.out.1 HS6.out (by omega) (by omega) (by omega) (by omega)).mono ?_; rintro e w7 ⟨rfl, hM7⟩; have HM7 := Hid.mk hM7; have g7 := (sent_grown HS6.out hM7.2 HRr.out.hD).1; have HBW7 := Hid.mk (HBW6.out.grown hM7.2 HBW6.out.size (fun k hk => by simp at hk; have := HBW2.out.size; omega)); clear hM7) | (go_at_call 13; refine (bytes_ok w2.heap.size p' rest.length c' rest.length wr HRr.out.dec (Nat.le_refl _) hrc' hrcc').mono ?_; rintro e w6 ⟨rfl, hM6⟩; have HM6 := Hid.mk hM6; have HB61 := Hid.mk (grown_bytes hM6.2 HRr.out.lies HRr.out.pD); have HB62 := Hid.mk (grown_bytes hM6.2 HPrr.out HPrD.out); have HS6 := Hid.mk (sent_grown HRr.out.sent hM6.2 HRr.out.hD); have HBW6 := Hid.mk (HBWr.out.grown hM6.2 HBWr.out.size (fun k hk => by simp at hk; have := HBW2.out.size; omega)); clear hM6) | (go_at_call 12; refine (err_any w2.heap.size _ .nilIface w6 HM6.out.1 (Or.inl rfl)).mono ?_; rintro e w6b ⟨rfl, hw6b⟩; have hw3 := hw6b.symm; clear hw6b; subst hw3) | (go_at_call 11; refine (equal_any p' pr rest rest.length cr w6 HB61.out HB62.out).mono ?_; rintro e w6b ⟨rfl, hw6b⟩; have hw3 := hw6b.symm; clear hw6b; subst hw3))
                have hneq := fun w => neq_same w a1
                go_quiet ((go_at_call 12; exact Calls.quiet_of_same (err_any w2.heap.size _ (.iface 87 (.pointer (some a1))) _ HM7.out.1 (Or.inr ⟨a1, rfl⟩))))
                go_wp2
                go_ret
                exact ⟨rfl, ⟨HBW7.out.os, HBW7.out.tape, HBW7.out.output, HBW7.out.size, HBW7.out.block⟩⟩
          · have hc1' : cls = 1 := hc1
            subst hc1'
            have HDec := Hid.mk hdec
            clear hdec hc1
            refine (err_any w2.heap.size vb _ w4 HDec.out (Or.inr ⟨a1, rfl⟩)).mono ?_
            rintro e w5 ⟨rfl, hw5⟩
            have hw6 := hw5.symm
            clear hw5
            subst hw6
            have heq := fun w => eq_same w a1
            go_wp2
            go_loopw [125] (fun i wr => ∃ k : Nat, k ≤ es.length ∧ i = .int .i64 k ∧ Below w4.heap.size w4 wr) (fun i _ => es.length - (intOf i).toNat)
            case atStart => exact ⟨0, Nat.zero_le _, rfl, Below.refl _ _⟩
            case round =>
              obtain ⟨k, hk, rfl, hBr⟩ := hrel
              have HBr := Hid.mk hBr
              clear hBr
              by_cases hlt : k < es.length
              · obtain ⟨bv, ov, rfl, hcv⟩ := HSr4.out.keep HBr.out (by omega)
                have cv1 := hcv k hlt
                have hkI : (k : Int) < (es.length : Int) := by omega
                have hmem : es.getD k ByteArray.empty ∈ es := by simp [List.getD, hlt]
                have hlk := set_look (HSet4.out.keep (grown_of_below HBr.out) (by simp)) hmem (by have := HSz.out _ hmem; omega)
                generalize es.getD k ByteArray.empty = x at *
                clear hcv hmem
                go_wp2
                go_roundw
                case rel => exact ⟨k + 1, by omega, by go_num, HBr.out.alloc HBr.out.size _⟩
                case measure => simp [intOf]; omega
              · have hge2 : decide ((k : Int) < (es.length : Int)) = false := by simp; omega
                go_wp2
                go_ret
                exact ⟨rfl, HBW4.out.trans (HBr.out.mono HBW4.out.size)⟩
          · have hc2' : cls = 2 := hc2
            subst hc2'
            have HDec := Hid.mk hdec
            clear hdec hc2
            refine (err_any w2.heap.size vb _ w4 HDec.out (Or.inr ⟨kx, rfl⟩)).mono ?_
            rintro e w5 ⟨rfl, hw5⟩
            have hw6 := hw5.symm
            clear hw5
            subst hw6
            have heq := eq_other hne hplx (HP1.out.same (HBW4.out.block _ HP1.out.lt))
            clear hplx hne
            go_wp2
            go_loopw [125] (fun i wr => ∃ k : Nat, k ≤ es.length ∧ i = .int .i64 k ∧ Below w4.heap.size w4 wr) (fun i _ => es.length - (intOf i).toNat)
            case atStart => exact ⟨0, Nat.zero_le _, rfl, Below.refl _ _⟩
            case round =>
              obtain ⟨k, hk, rfl, hBr⟩ := hrel
              have HBr := Hid.mk hBr
              clear hBr
              by_cases hlt : k < es.length
              · obtain ⟨bv, ov, rfl, hcv⟩ := HSr4.out.keep HBr.out (by omega)
                have cv1 := hcv k hlt
                have hkI : (k : Int) < (es.length : Int) := by omega
                have hmem : es.getD k ByteArray.empty ∈ es := by simp [List.getD, hlt]
                have hlk := set_look (HSet4.out.keep (grown_of_below HBr.out) (by simp)) hmem (by have := HSz.out _ hmem; omega)
                generalize es.getD k ByteArray.empty = x at *
                clear hcv hmem
                go_wp2
                go_roundw
                case rel => exact ⟨k + 1, by omega, by go_num, HBr.out.alloc HBr.out.size _⟩
                case measure => simp [intOf]; omega
              · have hge2 : decide ((k : Int) < (es.length : Int)) = false := by simp; omega
                go_wp2
                go_ret
                exact ⟨rfl, HBW4.out.trans (HBr.out.mono HBW4.out.size)⟩
end Go.Proofs.YbulkefaeFmt
