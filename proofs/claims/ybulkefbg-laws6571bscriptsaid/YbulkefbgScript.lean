/- The walk of LawS6571BScript. -/
import Derived.Test.YbulkefbgReads
import Derived.Deep.DeepCutAuto
namespace Go.Proofs.Ybulkefbg.Rd
open Go.RowKit
set_option linter.unusedVariables false

/-- The steps, as they came in. -/
structure Steps (w : World) (s : Option Addr) (sl sc : Nat) (b o : Nat) (O N : Nat → Int) : Prop where
  le : sl ≤ sc
  cap : sc ≤ maxLen
  here : 0 < sl → s = some ⟨b, o, none⟩
  op : ∀ i, i < sl → w.cell? ⟨b, o + i * 2, none⟩ = some (.int .u8 (O i)) ∧ 0 ≤ O i ∧ O i ≤ 255
  num : ∀ i, i < sl → w.cell? ⟨b, o + i * 2 + 1, none⟩ = some (.int .u64 (N i)) ∧ 0 ≤ N i ∧ N i ≤ 18446744073709551615

theorem At.lt {w : World} {g : Nat} {v : Value} {base i fa : Int} {st : Bool} (h : At w g v base i fa st) : g < w.heap.size := by
  unfold At at h; obtain ⟨h, _⟩ := Array.getElem?_eq_some_iff.1 h; exact h

theorem Hid.mk {p : Prop} (h : p) : Hid p := h

theorem IsRow.at {w : World} {a0 : Option Addr} {len0 cap0 : Nat} {z0 : List Int} (w0 : IsRow .u8 w a0 len0 cap0 z0) (h : 0 < len0) :
    ∃ b o, a0 = some ⟨b, o, none⟩ ∧ b < w.heap.size ∧ ∀ i, i < len0 → w.cell? ⟨b, o + i, none⟩ = some (.int .u8 (z0.getD i 0)) ∧ (Lit.int .u8 (z0.getD i 0)).wf = true := by
  rcases w0 with ⟨rfl, rfl, rfl, rfl⟩ | ⟨x, rfl, hl, hm, hz, hc, hw⟩
  · omega
  · obtain ⟨b, o, hx, hcc⟩ := Lib.BytesIn.of_cells (w := w) (a := x) (n := len0) (xs := z0) (fun i hi => hc i (by omega)) h
    refine ⟨b, o, hx, World.block_lt_of_cell? w _ (hcc 0 h), fun i hi => ⟨hcc i hi, hw _ ?_⟩⟩
    have : i < z0.length := by omega
    simp [List.getD, this]

theorem wrapP (P : Nat) (h : P ≤ 1048576) : IntKind.u64.wrap (P : Int) = P := IntWalk.u64_in _ (by omega)

theorem four {w : World} {b o len : Nat} {z : List Int} (h : ∀ i, i < len → w.cell? ⟨b, o + i, none⟩ = some (.int .u8 (z.getD i 0)) ∧ (Lit.int .u8 (z.getD i 0)).wf = true) (P : Nat) (hP : P + 4 ≤ len) :
    ∃ q0 q1 q2 q3 : Int, (0 ≤ q0 ∧ q0 ≤ 255) ∧ (0 ≤ q1 ∧ q1 ≤ 255) ∧ (0 ≤ q2 ∧ q2 ≤ 255) ∧ (0 ≤ q3 ∧ q3 ≤ 255) ∧ (∀ z ∈ [q0, q1, q2, q3], (Lit.int .u8 z).wf = true) ∧
      w.cell? ⟨b, o + P, none⟩ = some (.int .u8 q0) ∧ w.cell? ⟨b, o + (P + 1), none⟩ = some (.int .u8 q1) ∧ w.cell? ⟨b, o + (P + 2), none⟩ = some (.int .u8 q2) ∧ w.cell? ⟨b, o + (P + 3), none⟩ = some (.int .u8 q3) := by
  obtain ⟨c0, f0⟩ := h P (by omega)
  obtain ⟨c1, f1⟩ := h (P + 1) (by omega)
  obtain ⟨c2, f2⟩ := h (P + 2) (by omega)
  obtain ⟨c3, f3⟩ := h (P + 3) (by omega)
  refine ⟨_, _, _, _, bounds_u8 f0, bounds_u8 f1, bounds_u8 f2, bounds_u8 f3, ?_, c0, c1, c2, c3⟩
  intro z hz
  simp only [List.mem_cons, List.not_mem_nil, or_false] at hz
  rcases hz with rfl | rfl | rfl | rfl <;> assumption

theorem be_four (q0 q1 q2 q3 : Int) : Lib.beZ (([q0, q1, q2, q3] : List Int).take 4) = ((q0 * 256 + q1) * 256 + q2) * 256 + q3 := by
  simp [Lib.beZ, Lib.beFromZ]

theorem cells_four {w : World} {b o P : Nat} {q0 q1 q2 q3 : Int} (c0 : w.cell? ⟨b, o + P, none⟩ = some (.int .u8 q0)) (c1 : w.cell? ⟨b, o + (P + 1), none⟩ = some (.int .u8 q1)) (c2 : w.cell? ⟨b, o + (P + 2), none⟩ = some (.int .u8 q2)) (c3 : w.cell? ⟨b, o + (P + 3), none⟩ = some (.int .u8 q3)) :
    ∀ j, j < [q0, q1, q2, q3].length → w.cell? ((⟨b, o + (P : Int).toNat, none⟩ : Addr).add j) = some (.int .u8 ([q0, q1, q2, q3].getD j 0)) := by
  intro j hj
  have hj4 : j < 4 := by simpa using hj
  rw [Go.WideShapes.add_plain, Int.toNat_natCast, Nat.add_assoc]
  rcases (by omega : j = 0 ∨ j = 1 ∨ j = 2 ∨ j = 3) with rfl | rfl | rfl | rfl
  · exact c0
  · exact c1
  · exact c2
  · exact c3

theorem cell_through {w w1 wr : World} (hb : Below w.heap.size w w1) (hb2 : Below w1.heap.size w1 wr) {p : Addr} {v : Value} (h : w.cell? p = some v) : wr.cell? p = some v := by
  have hl := World.block_lt_of_cell? w p h
  rw [hb2.cell (Nat.lt_of_lt_of_le hl hb.size), hb.cell hl, h]

theorem sub_bytes {w w1 wr : World} (hb : Below w.heap.size w w1) (hb2 : Below w1.heap.size w1 wr) {b o len : Nat} {z : List Int} (h : ∀ i, i < len → w.cell? ⟨b, o + i, none⟩ = some (.int .u8 (z.getD i 0)) ∧ (Lit.int .u8 (z.getD i 0)).wf = true) (P m : Nat) (hP : P + m ≤ len) :
    ∀ i, i < m → wr.cell? ⟨b, o + P + i, none⟩ = some (.int .u8 (((List.range m).map fun i => z.getD (P + i) 0).getD i 0)) := by
  intro i hi
  have hc := cell_through hb hb2 (h (P + i) (by omega)).1
  rw [← Nat.add_assoc] at hc
  rw [hc]
  simp [List.getD, hi]

theorem bytesIn_grown {w w' : World} {b o m g : Nat} {xs : List Int} (h : ∀ i, i < m → w.cell? ⟨b, o + i, none⟩ = some (.int .u8 (xs.getD i 0))) (hG : w.grownBy w' (some g)) (hne : b ≠ g) : Lib.BytesIn w' (some ⟨b, o, none⟩) m xs :=
  fun _ => ⟨b, o, rfl, fun i hi => hG.cell (h i hi) (by simpa using hne)⟩

set_option maxRecDepth 100000 in
set_option maxHeartbeats 4000000 in
theorem script (a0 : Option Addr) (len0 cap0 : Nat) (z0 : List Int) (a1 : Int) (s : Option Addr) (sl sc b o : Nat) (O N : Nat → Int) (w : World) (w0 : IsRow .u8 w a0 len0 cap0 z0) (hs : Steps w s sl sc b o O N) :
    Calls Yba.prog 4 #[.slice a0 len0 cap0, .int .u64 a1, .slice s sl sc] w fun e w' => e = .returned (.bool true) ∧ Below w.heap.size w w' := by
  have e1 := eqnil
  have e2 := neqnil
  have e3 := neqsame
  obtain ⟨l1, l2, l3, l4⟩ := w0.len_le
  have l2' := l2
  unfold maxLen at l2'
  have s1 := hs.le
  have s2 := hs.cap
  unfold maxLen at s2
  by_cases hbig : 1048576 < len0
  · go_enter Yba.func4, Yba.ntmps4
    go_wp2
    go_ret
    exact ⟨rfl, Below.refl _ _⟩
  by_cases hbig2 : 65536 < sl
  · go_enter Yba.func4, Yba.ntmps4
    go_wp2
    go_ret
    exact ⟨rfl, Below.refl _ _⟩
  have t1 : decide ((1048576 : Int) < (len0 : Int)) = false := by simp; omega
  have t2 : decide ((65536 : Int) < (sl : Int)) = false := by simp; omega
  have W0 : Hid (IsRow .u8 w a0 len0 cap0 z0) := w0
  have HS : Hid (Steps w s sl sc b o O N) := hs
  have L3 : Hid (a0 = none → len0 = 0) := l3
  clear w0 hs l3
  go_enter Yba.func4, Yba.ntmps4
  go_wp2_with (first | (go_at_call 5; refine (clone_any a0 len0 cap0 z0 _ (by omega) W0.out).mono ?_; rintro e w1 ⟨p, c, rfl, hp, hB, hb⟩))
  have HB : Hid (Lib.BytesIn w1 p len0 (z0.take len0)) := hB
  have HP : Hid (p.isNone = a0.isNone) := hp
  clear hB hp
  go_loopw [9, 10, 11, 12] (fun p s f k wr => ∃ (K P : Nat) (S : Bool) (F : Int), K ≤ sl ∧ P ≤ len0 ∧ k = .int .i64 K ∧ p = .int .i64 P ∧ s = .bool S ∧ f = .int .u64 F ∧ (S = false → F = 0) ∧ At wr w1.heap.size (.slice a0 len0 cap0) a1 P F S ∧ Below w1.heap.size w1 wr) (fun _ _ _ k _ => sl - (intOf k).toNat)
  case atStart =>
    exact ⟨0, 0, false, 0, Nat.zero_le _, Nat.zero_le _, rfl, rfl, rfl, rfl, fun _ => rfl, heap_alloc_new w1 _, (Below.refl _ _).alloc (Nat.le_refl _) _⟩
  case round =>
    obtain ⟨K, P, S, F, hK, hP, rfl, rfl, rfl, rfl, hF, hA, hb2⟩ := hrel
    have hgw := hA.lt
    by_cases hlt : K < sl
    · obtain ⟨co, o0, o1⟩ := HS.out.op K hlt
      obtain ⟨cn, n0, n1⟩ := HS.out.num K hlt
      have hsome := HS.out.here (by omega)
      subst hsome
      have hbw := World.block_lt_of_cell? w _ co
      have hbs := hb.size
      replace co := cell_through hb hb2 co
      replace cn := cell_through hb hb2 cn
      generalize O K = op at *
      generalize N K = nn at *
      have HA : Hid (At (wr.alloc (.cells #[.int .u8 op, .int .u64 nn] 32)) w1.heap.size (.slice a0 len0 cap0) a1 P F S) := hA.below ((Below.refl _ _).alloc (Nat.le_refl _) _)
      have HB2 : Hid (Below w1.heap.size w1 (wr.alloc (.cells #[.int .u8 op, .int .u64 nn] 32))) := hb2.alloc (by omega) _
      clear hA hb2
      cases S with
      | true =>
        by_cases h0 : op % 3 = 0
        · go_wp2_with fail
          refine (byte_old w1.heap.size a0 len0 cap0 a1 P F _ HA.out).mono ?_
          rintro e w2 ⟨rfl, hA2, hG⟩
          obtain ⟨d0, d1, d2, d3, d4, dz⟩ := hA2.cells
          have HA2 := Hid.mk hA2
          have HG := Hid.mk hG
          clear hA2 hG
          go_wp2_with (go_at_call 12; refine (failed_any _ _ _ _ _ _ _ HA2.out).mono ?_; rintro e w' ⟨rfl, rfl⟩)
          go_roundw
          case rel => exact ⟨K + 1, P, true, F, by omega, by omega, by go_num, by go_num, rfl, rfl, by simp, by simpa using HA2.out, HB2.out.grown HG.out (by simp; omega) (by simp)⟩
          case measure => simp [intOf]; omega
        · by_cases h1 : op % 3 = 1
          · go_wp2_with fail
            refine (be32_old w1.heap.size a0 len0 cap0 a1 P F _ HA.out).mono ?_
            rintro e w2 ⟨rfl, hA2, hG⟩
            obtain ⟨d0, d1, d2, d3, d4, dz⟩ := hA2.cells
            have HA2 := Hid.mk hA2
            have HG := Hid.mk hG
            clear hA2 hG
            go_wp2_with (go_at_call 12; refine (failed_any _ _ _ _ _ _ _ HA2.out).mono ?_; rintro e w' ⟨rfl, rfl⟩)
            go_roundw
            case rel => exact ⟨K + 1, P, true, F, by omega, by omega, by go_num, by go_num, rfl, rfl, by simp, by simpa using HA2.out, HB2.out.grown HG.out (by simp; omega) (by simp)⟩
            case measure => simp [intOf]; omega
          · have h2 : op % 3 = 2 := by omega
            clear h0 h1
            go_wp2_with fail
            refine (bytes_old w1.heap.size a0 len0 cap0 a1 P F nn _ HA.out).mono ?_
            rintro e w2 ⟨rfl, hA2, hG⟩
            obtain ⟨d0, d1, d2, d3, d4, dz⟩ := hA2.cells
            have HA2 := Hid.mk hA2
            have HG := Hid.mk hG
            clear hA2 hG
            go_wp2_with (go_at_call 12; refine (failed_any _ _ _ _ _ _ _ HA2.out).mono ?_; rintro e w' ⟨rfl, rfl⟩)
            go_roundw
            case rel => exact ⟨K + 1, P, true, F, by omega, by omega, by go_num, by go_num, rfl, rfl, by simp, by simpa using HA2.out, HB2.out.grown HG.out (by simp; omega) (by simp)⟩
            case measure => simp [intOf]; omega
      | false =>
        obtain rfl := hF rfl
        clear hF
        by_cases h0 : op % 3 = 0
        · by_cases hfit : P < len0
          · obtain ⟨b', o', ha0, hb', hcell⟩ := W0.out.at (by omega)
            subst ha0
            have hbg : b' ≠ w1.heap.size := by omega
            obtain ⟨hc1, hw1⟩ := hcell P hfit
            replace hc1 := cell_through hb HB2.out hc1
            clear hcell
            generalize z0.getD P 0 = z at *
            go_wp2_with fail
            refine (byte_ok w1.heap.size b' o' len0 cap0 a1 P 0 z _ HA.out (by omega) l1 l2 (by omega) (by omega) hbg (by simpa using hc1)).mono ?_
            rintro e w2 ⟨rfl, hA2, hG⟩
            obtain ⟨d0, d1, d2, d3, d4, dz⟩ := hA2.cells
            have hc2 := hG.cell hc1 (by simpa using hbg)
            clear hc1
            have HA2 := Hid.mk hA2
            have HG := Hid.mk hG
            clear hA2 hG
            go_wp2_with (go_at_call 12; refine (failed_any _ _ _ _ _ _ _ HA2.out).mono ?_; rintro e w' ⟨rfl, rfl⟩)
            go_roundw
            case rel => exact ⟨K + 1, P + 1, false, 0, by omega, by omega, by go_num, by go_num, rfl, rfl, by simp, by simpa using HA2.out, HB2.out.grown HG.out (by simp; omega) (by simp)⟩
            case measure => simp [intOf]; omega
          · go_wp2_with fail
            refine (byte_stop w1.heap.size a0 len0 cap0 a1 P 0 _ HA.out (by omega) (by omega) (by omega) (by omega)).mono ?_
            rintro e w2 ⟨rfl, hA2, hG⟩
            rw [wrapP P (by omega)] at hA2
            obtain ⟨d0, d1, d2, d3, d4, dz⟩ := hA2.cells
            have HA2 := Hid.mk hA2
            have HG := Hid.mk hG
            clear hA2 hG
            go_wp2_with (go_at_call 12; refine (failed_any _ _ _ _ _ _ _ HA2.out).mono ?_; rintro e w' ⟨rfl, rfl⟩)
            go_roundw
            case rel => exact ⟨K + 1, P, true, IntKind.u64.wrap (a1 + P), by omega, by omega, by go_num, by go_num, rfl, rfl, by simp, by simpa using HA2.out, HB2.out.grown HG.out (by simp; omega) (by simp)⟩
            case measure => simp [intOf]; omega
        · by_cases h1 : op % 3 = 1
          · by_cases hfit : P + 4 ≤ len0
            · obtain ⟨b', o', ha0, hb', hcell⟩ := W0.out.at (by omega)
              subst ha0
              have hbg : b' ≠ w1.heap.size := by omega
              obtain ⟨q0, q1, q2, q3, g0, g1, g2, g3, hwf, c0, c1, c2, c3⟩ := four hcell P hfit
              clear hcell
              have HZ := Hid.mk (cells_four (cell_through hb HB2.out c0) (cell_through hb HB2.out c1) (cell_through hb HB2.out c2) (cell_through hb HB2.out c3))
              have HWF := Hid.mk hwf
              have C0 := Hid.mk (cell_through hb HB2.out c0)
              have C1 := Hid.mk (cell_through hb HB2.out c1)
              have C2 := Hid.mk (cell_through hb HB2.out c2)
              have C3 := Hid.mk (cell_through hb HB2.out c3)
              clear c0 c1 c2 c3 hwf
              go_wp2_with fail
              refine (be32_ok w1.heap.size b' o' len0 cap0 a1 P 0 [q0, q1, q2, q3] _ HA.out (by omega) l1 l2 (by omega) (by omega) hbg rfl HZ.out HWF.out).mono ?_
              rintro e w2 ⟨rfl, hA2, hG⟩
              rw [be_four]
              have c0 := hG.cell C0.out (by simpa using hbg)
              have c1 := hG.cell C1.out (by simpa using hbg)
              have c2 := hG.cell C2.out (by simpa using hbg)
              have c3 := hG.cell C3.out (by simpa using hbg)
              obtain ⟨d0, d1, d2, d3, d4, dz⟩ := hA2.cells
              have HA2 := Hid.mk hA2
              have HG := Hid.mk hG
              clear hA2 hG HZ HWF C0 C1 C2 C3
              go_wp2_with fail
              go_rounds 5
              go_roundw
              case rel => exact ⟨K + 1, P + 4, false, 0, by omega, by omega, by go_num, by go_num, rfl, rfl, by simp, by simpa using HA2.out, HB2.out.grown HG.out (by simp; omega) (by simp)⟩
              case measure => simp [intOf]; omega
            · go_wp2_with fail
              refine (be32_stop w1.heap.size a0 len0 cap0 a1 P 0 _ HA.out (by omega) (by omega) (by omega) (by omega)).mono ?_
              rintro e w2 ⟨rfl, hA2, hG⟩
              rw [wrapP P (by omega)] at hA2
              obtain ⟨d0, d1, d2, d3, d4, dz⟩ := hA2.cells
              have HA2 := Hid.mk hA2
              have HG := Hid.mk hG
              clear hA2 hG
              go_wp2_with (go_at_call 12; refine (failed_any _ _ _ _ _ _ _ HA2.out).mono ?_; rintro e w' ⟨rfl, rfl⟩)
              go_roundw
              case rel => exact ⟨K + 1, P, true, IntKind.u64.wrap (a1 + P), by omega, by omega, by go_num, by go_num, rfl, rfl, by simp, by simpa using HA2.out, HB2.out.grown HG.out (by simp; omega) (by simp)⟩
              case measure => simp [intOf]; omega
          · have h2 : op % 3 = 2 := by omega
            clear h0 h1
            by_cases hfit : nn ≤ len0 - P
            · obtain ⟨m, rfl⟩ := Int.eq_ofNat_of_zero_le n0
              by_cases hm : m = 0
              · subst hm
                by_cases hcp : cap0 = P
                · subst hcp
                  go_wp2_with fail
                  refine (bytes_none w1.heap.size a0 len0 cap0 a1 cap0 0 _ HA.out (by omega) l1 l2 (by omega) (by omega)).mono ?_
                  rintro e w2 ⟨⟨p2, c2, rfl⟩, hA2, hG⟩
                  obtain ⟨d0, d1, d2, d3, d4, dz⟩ := hA2.cells
                  have cs : w2.cell? ⟨wr.heap.size, 1, none⟩ = some (.int .u64 0) := hG.cell (a := ⟨wr.heap.size, 1, none⟩) (v := .int .u64 0) (by simp [go_sem]) (by simp; omega)
                  have HA2 := Hid.mk hA2
                  have HG := Hid.mk hG
                  clear hA2 hG
                  go_wp2_with (first | (go_at_call 8; refine (Yba.bytes_Equal_all _ _ 0 _ 0 _ [] [] _ rfl rfl (Lib.BytesIn.nil _ _ _) (Lib.BytesIn.nil _ _ _)).mono ?_; rintro e w' ⟨rfl, rfl⟩))
                  go_quiet (fail)
                  go_wp2_with (go_at_call 12; refine (failed_any _ _ _ _ _ _ _ (by exact HA2.out)).mono ?_; rintro e w' ⟨rfl, rfl⟩)
                  go_roundw
                  case rel => exact ⟨K + 1, cap0, false, 0, by omega, by omega, by go_num, by go_num, rfl, rfl, by simp, HA2.out.drewN _, Rd.Below.drewN (HB2.out.grown HG.out (by simp; omega) (by simp)) _⟩
                  case measure => simp [intOf]; omega
                · go_wp2_with fail
                  refine (bytes_none w1.heap.size a0 len0 cap0 a1 P 0 _ HA.out (by omega) l1 l2 (by omega) (by omega)).mono ?_
                  rintro e w2 ⟨⟨p2, c2, rfl⟩, hA2, hG⟩
                  obtain ⟨d0, d1, d2, d3, d4, dz⟩ := hA2.cells
                  have cs : w2.cell? ⟨wr.heap.size, 1, none⟩ = some (.int .u64 0) := hG.cell (a := ⟨wr.heap.size, 1, none⟩) (v := .int .u64 0) (by simp [go_sem]) (by simp; omega)
                  have HA2 := Hid.mk hA2
                  have HG := Hid.mk hG
                  clear hA2 hG
                  go_wp2_with (first | (go_at_call 8; refine (Yba.bytes_Equal_all _ _ 0 _ 0 _ [] [] _ rfl rfl (Lib.BytesIn.nil _ _ _) (Lib.BytesIn.nil _ _ _)).mono ?_; rintro e w' ⟨rfl, rfl⟩))
                  go_quiet (fail)
                  go_wp2_with (go_at_call 12; refine (failed_any _ _ _ _ _ _ _ (by exact HA2.out)).mono ?_; rintro e w' ⟨rfl, rfl⟩)
                  go_roundw
                  case rel => exact ⟨K + 1, P, false, 0, by omega, by omega, by go_num, by go_num, rfl, rfl, by simp, HA2.out.drewN _, Rd.Below.drewN (HB2.out.grown HG.out (by simp; omega) (by simp)) _⟩
                  case measure => simp [intOf]; omega
              · obtain ⟨b', o', ha0, hb', hcell⟩ := W0.out.at (by omega)
                subst ha0
                have hbg : b' ≠ w1.heap.size := by omega
                have HSub := Hid.mk (sub_bytes hb HB2.out hcell P m (by omega))
                clear hcell
                go_wp2_with fail
                refine (bytes_ok w1.heap.size b' o' len0 cap0 a1 P 0 m _ HA.out (by omega) l1 l2 (by omega) (by omega) (by omega) (by omega)).mono ?_
                rintro e w2 ⟨rfl, hA2, hG⟩
                obtain ⟨d0, d1, d2, d3, d4, dz⟩ := hA2.cells
                have cs : w2.cell? ⟨wr.heap.size, 1, none⟩ = some (.int .u64 m) := hG.cell (a := ⟨wr.heap.size, 1, none⟩) (v := .int .u64 m) (by simp [go_sem]) (by simp; omega)
                have HA2 := Hid.mk hA2
                have HG := Hid.mk hG
                clear hA2 hG
                have hm0 : 0 < m := by omega
                have hmI : (0 : Int) < (m : Int) := by omega
                have hPI : (P : Int) < (len0 : Int) := by omega
                go_wp2_with (first | (go_at_call 8; refine (Yba.bytes_Equal_all _ _ m _ m _ ((List.range m).map fun i => z0.getD (P + i) 0) ((List.range m).map fun i => z0.getD (P + i) 0) _ (by simp) (by simp) (bytesIn_grown HSub.out HG.out hbg) (bytesIn_grown HSub.out HG.out hbg)).mono ?_; rintro e w' ⟨rfl, rfl⟩))
                go_quiet (fail)
                go_wp2_with (go_at_call 12; refine (failed_any _ _ _ _ _ _ _ (by exact HA2.out)).mono ?_; rintro e w' ⟨rfl, rfl⟩)
                go_roundw
                case rel => exact ⟨K + 1, P + m, false, 0, by omega, by omega, by go_num, by go_num, rfl, rfl, by simp, by simpa using HA2.out.drewN _, Rd.Below.drewN (HB2.out.grown HG.out (by simp; omega) (by simp)) _⟩
                case measure => simp [intOf]; omega
            · go_wp2_with fail
              refine (bytes_stop w1.heap.size a0 len0 cap0 a1 P 0 nn _ HA.out (by omega) (by omega) (by omega) (by omega)).mono ?_
              rintro e w2 ⟨rfl, hA2, hG⟩
              rw [wrapP P (by omega)] at hA2
              obtain ⟨d0, d1, d2, d3, d4, dz⟩ := hA2.cells
              have HA2 := Hid.mk hA2
              have HG := Hid.mk hG
              clear hA2 hG
              go_wp2_with (go_at_call 12; refine (failed_any _ _ _ _ _ _ _ HA2.out).mono ?_; rintro e w' ⟨rfl, rfl⟩)
              go_roundw
              case rel => exact ⟨K + 1, P, true, IntKind.u64.wrap (a1 + P), by omega, by omega, by go_num, by go_num, rfl, rfl, by simp, by simpa using HA2.out, HB2.out.grown HG.out (by simp; omega) (by simp)⟩
              case measure => simp [intOf]; omega
    · go_wp2_with (first | (go_at_call 8; refine (Yba.bytes_Equal_all p a0 len0 c len0 cap0 (z0.take len0) (z0.take len0) _ l4 l4 (bytesIn_below HB.out hb2) (W0.out.bytesIn (hb.trans (hb2.mono hb.size)))).mono ?_; rintro e w' ⟨rfl, rfl⟩))
      go_ret
      exact ⟨rfl, hb.trans (hb2.mono hb.size)⟩
end Go.Proofs.Ybulkefbg.Rd
