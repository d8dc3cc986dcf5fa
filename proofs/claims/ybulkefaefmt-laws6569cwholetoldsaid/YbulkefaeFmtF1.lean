/- LawS6569CWhole: white space; the reader of a varint. -/
import Derived.Test.YbulkefaeFmtRows
import Derived.WalkKit
import Derived.Handy
import Derived.Deep.Light
import Derived.WalkSpells
import Derived.WalkLawsBesides
import Derived.Lib.VarintDec
import Derived.Lib.VarintBits
import Derived.Shelf.Unicode.IsSpaceAny
import Derived.Laws.Closers25b
namespace Go.Proofs.YbulkefaeFmt
open Go.RowKit
set_option linter.unusedVariables false

theorem Hid.mk {p : Prop} (h : p) : Hid p := h

theorem isSpaceZ_iff (r : Int) : Lib.isSpaceZ r = decide ((9 ≤ r ∧ r ≤ 13) ∨ r = 32 ∨ r = 133 ∨ r = 160 ∨ r = 5760 ∨ (8192 ≤ r ∧ r ≤ 8202) ∨ r = 8232 ∨ r = 8233 ∨ r = 8239 ∨ r = 8287 ∨ r = 12288) := by
  unfold Lib.isSpaceZ
  by_cases h : 0 ≤ r
  · rw [if_pos h]
    obtain ⟨n, rfl⟩ := Int.eq_ofNat_of_zero_le h
    rw [Int.toNat_natCast]
    unfold Lib.isSpaceR
    rw [Bool.eq_iff_iff]
    simp
    omega
  · rw [if_neg h]
    symm
    apply decide_eq_false
    omega

set_option maxHeartbeats 2000000 in
theorem space_any (r : Int) (w : World) : Calls Ybaf.prog 31 #[.int .i32 r] w fun e w' => e = .returned (.bool (Lib.isSpaceZ r)) ∧ w' = w := by
  rw [isSpaceZ_iff]
  go_enter Ybaf.func31, Ybaf.ntmps31
  go_wp2
  all_goals (go_ret; refine ⟨congrArg Ending.returned ?_, rfl⟩; show Value.bool _ = Value.bool _; refine congrArg Value.bool ?_; first | exact (decide_eq_true (by omega)).symm | exact (decide_eq_false (by omega)).symm | exact decide_eq_decide.2 (by omega) | (simp only [beq_iff_eq, beq_eq_false_iff_ne, ne_eq] at *; first | exact (decide_eq_true (by omega)).symm | exact (decide_eq_false (by omega)).symm | (symm; simp; omega)))

/-- What the reader says: value, bytes used, status. -/
def rd (l : List UInt8) : Nat × Nat × Nat :=
  if 0 < (Lib.uvarintDec l).2 then ((Lib.uvarintDec l).1, (Lib.uvarintDec l).2.toNat, 0) else if (Lib.uvarintDec l).2 = 0 then (0, 0, 1) else (0, 0, 2)

/-- The bytes l lie at p. -/
def Bytes (w : World) (p : Option Addr) (l : List UInt8) : Prop :=
  0 < l.length → ∃ b o, p = some ⟨b, o, none⟩ ∧ ∀ j (hj : j < l.length), w.cell? ⟨b, o + j, none⟩ = some (.int .u8 (l[j]).toNat)

theorem rd_ok {l : List UInt8} {v : Nat} {n : Nat} (h : Lib.uvarintDec l = (v, (n : Int) + 1)) : rd l = (v, n + 1, 0) := by
  unfold rd; rw [h]; rw [if_pos (by show (0 : Int) < (n : Int) + 1; omega)]
  show (v, ((n : Int) + 1).toNat, 0) = _
  rw [show ((n : Int) + 1).toNat = n + 1 by omega]
theorem rd_short {l : List UInt8} (h : Lib.uvarintDec l = (0, 0)) : rd l = (0, 0, 1) := by
  unfold rd; rw [h]; simp
theorem rd_big {l : List UInt8} {n : Nat} (h : Lib.uvarintDec l = (0, -((n : Int) + 1))) : rd l = (0, 0, 2) := by
  unfold rd; rw [h]; rw [if_neg (by show ¬ (0 : Int) < -((n : Int) + 1); omega), if_neg (by show ¬ -((n : Int) + 1) = 0; omega)]

def rdV (l : List UInt8) : Value := .tuple #[.int .u64 (rd l).1, .int .i64 (rd l).2.1, .int .i64 (rd l).2.2]

set_option maxHeartbeats 16000000 in
set_option maxRecDepth 100000 in
theorem read_any (p : Option Addr) (l : List UInt8) (c : Nat) (w : World) (h : Bytes w p l) (hl : l.length ≤ 140737488355328) :
    Calls Ybaf.prog 16 #[.slice p l.length c] w fun e w' => e = .returned (rdV l) ∧ w' = w := by
  have H := Hid.mk h
  clear h
  go_enter Ybaf.func16, Ybaf.ntmps16
  go_wp2
  go_loop [5, 6] (fun vx vi => ∃ k acc : Nat, vi = .int .i64 k ∧ vx = .int .u64 acc ∧ k ≤ 10 ∧ k ≤ l.length ∧ acc < 2 ^ (7 * k) ∧ Lib.uvarintDec l = Lib.uvarintFrom k acc (l.drop k)) (fun _ vi => l.length - (intOf vi).toNat)
  case atStart => exact ⟨0, 0, rfl, rfl, by omega, by omega, by decide, rfl⟩
  case round =>
    obtain ⟨k, acc, rfl, rfl, hk10, hkn, hacc, hdec⟩ := hrel
    by_cases hk : k < l.length
    · obtain ⟨b', o, rfl, hcc⟩ := H.out (by omega)
      have hc := hcc k hk
      have hkI : (k : Int) < (l.length : Int) := by omega
      have hdrop : l.drop k = l[k]'(by omega) :: l.drop (k + 1) := List.drop_eq_getElem_cons (by omega)
      rw [hdrop] at hdec
      generalize l[k]'(by omega) = b at hc hdec
      have hb256 : b.toNat < 256 := b.toNat_lt
      clear hcc hdrop
      have HD := Hid.mk hdec
      clear hdec
      have hks : k = 0 ∨ k = 1 ∨ k = 2 ∨ k = 3 ∨ k = 4 ∨ k = 5 ∨ k = 6 ∨ k = 7 ∨ k = 8 ∨ k = 9 ∨ k = 10 := by omega
      rcases hks with rfl | rfl | rfl | rfl | rfl | rfl | rfl | rfl | rfl | rfl | rfl
      · have hacc' : acc < 1 := by simpa using hacc
        have hc0 : w.cell? ⟨b', o, none⟩ = some (.int .u8 b.toNat) := hc
        clear hc
        by_cases hb : b.toNat < 128
        · have hbI : decide ((b.toNat : Int) < 128) = true := by simp; omega
          have hor : bits .or .u64 (acc : Int) (b.toNat : Int) = ((acc + b.toNat : Nat) : Int) := by
            rw [u64_orv0 _ _ (by omega) (by omega) (by omega) (by omega) (by omega)]
            omega
          have hF : Lib.uvarintFrom 0 acc (b :: l.drop (0 + 1)) = (acc + b.toNat * 1, ((0 : Nat) : Int) + 1) := by simp [Lib.uvarintFrom, hb]
          have HR := Hid.mk (rd_ok (HD.out.trans hF))
          go_wp2
          go_ret3
          exact ⟨by unfold rdV; rw [HR.out]; simp, rfl⟩
        · have hbI : decide ((b.toNat : Int) < 128) = false := by simp; omega
          have hv : bits .or .u64 (acc : Int) (IntKind.u64.wrap (IntKind.u64.wrap (bits .and .u8 (b.toNat : Int) 127))) = ((acc + b.toNat % 128 : Nat) : Int) := by
            simp (disch := omega) only [u8_and127, u64_wrap_id, u64_orv0]
            omega
          have hF : Lib.uvarintFrom 0 acc (b :: l.drop (0 + 1)) = Lib.uvarintFrom 1 (acc + b.toNat % 128) (l.drop (0 + 1)) := by simp [Lib.uvarintFrom, hb]
          go_wp2
          go_round
          case rel => exact ⟨1, acc + b.toNat % 128, by go_num, by first | rfl | (congr 1; omega), by omega, by omega, by show acc + b.toNat % 128 < 128; omega, HD.out.trans hF⟩
          case measure => simp [intOf]; omega
      · have hacc' : acc < 128 := by simpa using hacc
        by_cases hb : b.toNat < 128
        · have hbI : decide ((b.toNat : Int) < 128) = true := by simp; omega
          have hor : bits .or .u64 (acc : Int) ((b.toNat : Int) * 128) = ((acc + b.toNat * 128 : Nat) : Int) := by
            rw [u64_orv7 _ _ (by omega) (by omega) (by omega) (by omega) (by omega)]
            omega
          have hF : Lib.uvarintFrom 1 acc (b :: l.drop (1 + 1)) = (acc + b.toNat * 128, ((1 : Nat) : Int) + 1) := by simp [Lib.uvarintFrom, hb]
          have HR := Hid.mk (rd_ok (HD.out.trans hF))
          go_wp2
          go_ret3
          exact ⟨by unfold rdV; rw [HR.out]; rfl, rfl⟩
        · have hbI : decide ((b.toNat : Int) < 128) = false := by simp; omega
          have hv : bits .or .u64 (acc : Int) (IntKind.u64.wrap (IntKind.u64.wrap (bits .and .u8 (b.toNat : Int) 127) * 128)) = ((acc + b.toNat % 128 * 128 : Nat) : Int) := by
            simp (disch := omega) only [u8_and127, u64_wrap_id, u64_orv7]
            omega
          have hF : Lib.uvarintFrom 1 acc (b :: l.drop (1 + 1)) = Lib.uvarintFrom 2 (acc + b.toNat % 128 * 128) (l.drop (1 + 1)) := by simp [Lib.uvarintFrom, hb]
          go_wp2
          go_round
          case rel => exact ⟨2, acc + b.toNat % 128 * 128, by go_num, by first | rfl | (congr 1; omega), by omega, by omega, by show acc + b.toNat % 128 * 128 < 16384; omega, HD.out.trans hF⟩
          case measure => simp [intOf]; omega
      · have hacc' : acc < 16384 := by simpa using hacc
        by_cases hb : b.toNat < 128
        · have hbI : decide ((b.toNat : Int) < 128) = true := by simp; omega
          have hor : bits .or .u64 (acc : Int) ((b.toNat : Int) * 16384) = ((acc + b.toNat * 16384 : Nat) : Int) := by
            rw [u64_orv14 _ _ (by omega) (by omega) (by omega) (by omega) (by omega)]
            omega
          have hF : Lib.uvarintFrom 2 acc (b :: l.drop (2 + 1)) = (acc + b.toNat * 16384, ((2 : Nat) : Int) + 1) := by simp [Lib.uvarintFrom, hb]
          have HR := Hid.mk (rd_ok (HD.out.trans hF))
          go_wp2
          go_ret3
          exact ⟨by unfold rdV; rw [HR.out]; rfl, rfl⟩
        · have hbI : decide ((b.toNat : Int) < 128) = false := by simp; omega
          have hv : bits .or .u64 (acc : Int) (IntKind.u64.wrap (IntKind.u64.wrap (bits .and .u8 (b.toNat : Int) 127) * 16384)) = ((acc + b.toNat % 128 * 16384 : Nat) : Int) := by
            simp (disch := omega) only [u8_and127, u64_wrap_id, u64_orv14]
            omega
          have hF : Lib.uvarintFrom 2 acc (b :: l.drop (2 + 1)) = Lib.uvarintFrom 3 (acc + b.toNat % 128 * 16384) (l.drop (2 + 1)) := by simp [Lib.uvarintFrom, hb]
          go_wp2
          go_round
          case rel => exact ⟨3, acc + b.toNat % 128 * 16384, by go_num, by first | rfl | (congr 1; omega), by omega, by omega, by show acc + b.toNat % 128 * 16384 < 2097152; omega, HD.out.trans hF⟩
          case measure => simp [intOf]; omega
      · have hacc' : acc < 2097152 := by simpa using hacc
        by_cases hb : b.toNat < 128
        · have hbI : decide ((b.toNat : Int) < 128) = true := by simp; omega
          have hor : bits .or .u64 (acc : Int) ((b.toNat : Int) * 2097152) = ((acc + b.toNat * 2097152 : Nat) : Int) := by
            rw [u64_orv21 _ _ (by omega) (by omega) (by omega) (by omega) (by omega)]
            omega
          have hF : Lib.uvarintFrom 3 acc (b :: l.drop (3 + 1)) = (acc + b.toNat * 2097152, ((3 : Nat) : Int) + 1) := by simp [Lib.uvarintFrom, hb]
          have HR := Hid.mk (rd_ok (HD.out.trans hF))
          go_wp2
          go_ret3
          exact ⟨by unfold rdV; rw [HR.out]; rfl, rfl⟩
        · have hbI : decide ((b.toNat : Int) < 128) = false := by simp; omega
          have hv : bits .or .u64 (acc : Int) (IntKind.u64.wrap (IntKind.u64.wrap (bits .and .u8 (b.toNat : Int) 127) * 2097152)) = ((acc + b.toNat % 128 * 2097152 : Nat) : Int) := by
            simp (disch := omega) only [u8_and127, u64_wrap_id, u64_orv21]
            omega
          have hF : Lib.uvarintFrom 3 acc (b :: l.drop (3 + 1)) = Lib.uvarintFrom 4 (acc + b.toNat % 128 * 2097152) (l.drop (3 + 1)) := by simp [Lib.uvarintFrom, hb]
          go_wp2
          go_round
          case rel => exact ⟨4, acc + b.toNat % 128 * 2097152, by go_num, by first | rfl | (congr 1; omega), by omega, by omega, by show acc + b.toNat % 128 * 2097152 < 268435456; omega, HD.out.trans hF⟩
          case measure => simp [intOf]; omega
      · have hacc' : acc < 268435456 := by simpa using hacc
        by_cases hb : b.toNat < 128
        · have hbI : decide ((b.toNat : Int) < 128) = true := by simp; omega
          have hor : bits .or .u64 (acc : Int) ((b.toNat : Int) * 268435456) = ((acc + b.toNat * 268435456 : Nat) : Int) := by
            rw [u64_orv28 _ _ (by omega) (by omega) (by omega) (by omega) (by omega)]
            omega
          have hF : Lib.uvarintFrom 4 acc (b :: l.drop (4 + 1)) = (acc + b.toNat * 268435456, ((4 : Nat) : Int) + 1) := by simp [Lib.uvarintFrom, hb]
          have HR := Hid.mk (rd_ok (HD.out.trans hF))
          go_wp2
          go_ret3
          exact ⟨by unfold rdV; rw [HR.out]; rfl, rfl⟩
        · have hbI : decide ((b.toNat : Int) < 128) = false := by simp; omega
          have hv : bits .or .u64 (acc : Int) (IntKind.u64.wrap (IntKind.u64.wrap (bits .and .u8 (b.toNat : Int) 127) * 268435456)) = ((acc + b.toNat % 128 * 268435456 : Nat) : Int) := by
            simp (disch := omega) only [u8_and127, u64_wrap_id, u64_orv28]
            omega
          have hF : Lib.uvarintFrom 4 acc (b :: l.drop (4 + 1)) = Lib.uvarintFrom 5 (acc + b.toNat % 128 * 268435456) (l.drop (4 + 1)) := by simp [Lib.uvarintFrom, hb]
          go_wp2
          go_round
          case rel => exact ⟨5, acc + b.toNat % 128 * 268435456, by go_num, by first | rfl | (congr 1; omega), by omega, by omega, by show acc + b.toNat % 128 * 268435456 < 34359738368; omega, HD.out.trans hF⟩
          case measure => simp [intOf]; omega
      · have hacc' : acc < 34359738368 := by simpa using hacc
        by_cases hb : b.toNat < 128
        · have hbI : decide ((b.toNat : Int) < 128) = true := by simp; omega
          have hor : bits .or .u64 (acc : Int) ((b.toNat : Int) * 34359738368) = ((acc + b.toNat * 34359738368 : Nat) : Int) := by
            rw [u64_orv35 _ _ (by omega) (by omega) (by omega) (by omega) (by omega)]
            omega
          have hF : Lib.uvarintFrom 5 acc (b :: l.drop (5 + 1)) = (acc + b.toNat * 34359738368, ((5 : Nat) : Int) + 1) := by simp [Lib.uvarintFrom, hb]
          have HR := Hid.mk (rd_ok (HD.out.trans hF))
          go_wp2
          go_ret3
          exact ⟨by unfold rdV; rw [HR.out]; rfl, rfl⟩
        · have hbI : decide ((b.toNat : Int) < 128) = false := by simp; omega
          have hv : bits .or .u64 (acc : Int) (IntKind.u64.wrap (IntKind.u64.wrap (bits .and .u8 (b.toNat : Int) 127) * 34359738368)) = ((acc + b.toNat % 128 * 34359738368 : Nat) : Int) := by
            simp (disch := omega) only [u8_and127, u64_wrap_id, u64_orv35]
            omega
          have hF : Lib.uvarintFrom 5 acc (b :: l.drop (5 + 1)) = Lib.uvarintFrom 6 (acc + b.toNat % 128 * 34359738368) (l.drop (5 + 1)) := by simp [Lib.uvarintFrom, hb]
          go_wp2
          go_round
          case rel => exact ⟨6, acc + b.toNat % 128 * 34359738368, by go_num, by first | rfl | (congr 1; omega), by omega, by omega, by show acc + b.toNat % 128 * 34359738368 < 4398046511104; omega, HD.out.trans hF⟩
          case measure => simp [intOf]; omega
      · have hacc' : acc < 4398046511104 := by simpa using hacc
        by_cases hb : b.toNat < 128
        · have hbI : decide ((b.toNat : Int) < 128) = true := by simp; omega
          have hor : bits .or .u64 (acc : Int) ((b.toNat : Int) * 4398046511104) = ((acc + b.toNat * 4398046511104 : Nat) : Int) := by
            rw [u64_orv42 _ _ (by omega) (by omega) (by omega) (by omega) (by omega)]
            omega
          have hF : Lib.uvarintFrom 6 acc (b :: l.drop (6 + 1)) = (acc + b.toNat * 4398046511104, ((6 : Nat) : Int) + 1) := by simp [Lib.uvarintFrom, hb]
          have HR := Hid.mk (rd_ok (HD.out.trans hF))
          go_wp2
          go_ret3
          exact ⟨by unfold rdV; rw [HR.out]; rfl, rfl⟩
        · have hbI : decide ((b.toNat : Int) < 128) = false := by simp; omega
          have hv : bits .or .u64 (acc : Int) (IntKind.u64.wrap (IntKind.u64.wrap (bits .and .u8 (b.toNat : Int) 127) * 4398046511104)) = ((acc + b.toNat % 128 * 4398046511104 : Nat) : Int) := by
            simp (disch := omega) only [u8_and127, u64_wrap_id, u64_orv42]
            omega
          have hF : Lib.uvarintFrom 6 acc (b :: l.drop (6 + 1)) = Lib.uvarintFrom 7 (acc + b.toNat % 128 * 4398046511104) (l.drop (6 + 1)) := by simp [Lib.uvarintFrom, hb]
          go_wp2
          go_round
          case rel => exact ⟨7, acc + b.toNat % 128 * 4398046511104, by go_num, by first | rfl | (congr 1; omega), by omega, by omega, by show acc + b.toNat % 128 * 4398046511104 < 562949953421312; omega, HD.out.trans hF⟩
          case measure => simp [intOf]; omega
      · have hacc' : acc < 562949953421312 := by simpa using hacc
        by_cases hb : b.toNat < 128
        · have hbI : decide ((b.toNat : Int) < 128) = true := by simp; omega
          have hor : bits .or .u64 (acc : Int) ((b.toNat : Int) * 562949953421312) = ((acc + b.toNat * 562949953421312 : Nat) : Int) := by
            rw [u64_orv49 _ _ (by omega) (by omega) (by omega) (by omega) (by omega)]
            omega
          have hF : Lib.uvarintFrom 7 acc (b :: l.drop (7 + 1)) = (acc + b.toNat * 562949953421312, ((7 : Nat) : Int) + 1) := by simp [Lib.uvarintFrom, hb]
          have HR := Hid.mk (rd_ok (HD.out.trans hF))
          go_wp2
          go_ret3
          exact ⟨by unfold rdV; rw [HR.out]; rfl, rfl⟩
        · have hbI : decide ((b.toNat : Int) < 128) = false := by simp; omega
          have hv : bits .or .u64 (acc : Int) (IntKind.u64.wrap (IntKind.u64.wrap (bits .and .u8 (b.toNat : Int) 127) * 562949953421312)) = ((acc + b.toNat % 128 * 562949953421312 : Nat) : Int) := by
            simp (disch := omega) only [u8_and127, u64_wrap_id, u64_orv49]
            omega
          have hF : Lib.uvarintFrom 7 acc (b :: l.drop (7 + 1)) = Lib.uvarintFrom 8 (acc + b.toNat % 128 * 562949953421312) (l.drop (7 + 1)) := by simp [Lib.uvarintFrom, hb]
          go_wp2
          go_round
          case rel => exact ⟨8, acc + b.toNat % 128 * 562949953421312, by go_num, by first | rfl | (congr 1; omega), by omega, by omega, by show acc + b.toNat % 128 * 562949953421312 < 72057594037927936; omega, HD.out.trans hF⟩
          case measure => simp [intOf]; omega
      · have hacc' : acc < 72057594037927936 := by simpa using hacc
        by_cases hb : b.toNat < 128
        · have hbI : decide ((b.toNat : Int) < 128) = true := by simp; omega
          have hor : bits .or .u64 (acc : Int) ((b.toNat : Int) * 72057594037927936) = ((acc + b.toNat * 72057594037927936 : Nat) : Int) := by
            rw [u64_orv56 _ _ (by omega) (by omega) (by omega) (by omega) (by omega)]
            omega
          have hF : Lib.uvarintFrom 8 acc (b :: l.drop (8 + 1)) = (acc + b.toNat * 72057594037927936, ((8 : Nat) : Int) + 1) := by simp [Lib.uvarintFrom, hb]
          have HR := Hid.mk (rd_ok (HD.out.trans hF))
          go_wp2
          go_ret3
          exact ⟨by unfold rdV; rw [HR.out]; rfl, rfl⟩
        · have hbI : decide ((b.toNat : Int) < 128) = false := by simp; omega
          have hv : bits .or .u64 (acc : Int) (IntKind.u64.wrap (IntKind.u64.wrap (bits .and .u8 (b.toNat : Int) 127) * 72057594037927936)) = ((acc + b.toNat % 128 * 72057594037927936 : Nat) : Int) := by
            simp (disch := omega) only [u8_and127, u64_wrap_id, u64_orv56]
            omega
          have hF : Lib.uvarintFrom 8 acc (b :: l.drop (8 + 1)) = Lib.uvarintFrom 9 (acc + b.toNat % 128 * 72057594037927936) (l.drop (8 + 1)) := by simp [Lib.uvarintFrom, hb]
          go_wp2
          go_round
          case rel => exact ⟨9, acc + b.toNat % 128 * 72057594037927936, by go_num, by first | rfl | (congr 1; omega), by omega, by omega, by show acc + b.toNat % 128 * 72057594037927936 < 9223372036854775808; omega, HD.out.trans hF⟩
          case measure => simp [intOf]; omega
      · have hacc' : acc < 9223372036854775808 := by simpa using hacc
        by_cases hb : b.toNat < 128
        · have hbI : decide ((b.toNat : Int) < 128) = true := by simp; omega
          by_cases hb1 : 1 < b.toNat
          · have hb1I : decide ((1 : Int) < (b.toNat : Int)) = true := by simp; omega
            have hF : Lib.uvarintFrom 9 acc (b :: l.drop (9 + 1)) = (0, -(((9 : Nat) : Int) + 1)) := by simp [Lib.uvarintFrom, hb, hb1]
            have HR := Hid.mk (rd_big (HD.out.trans hF))
            go_wp2
            go_ret3
            exact ⟨by unfold rdV; rw [HR.out]; rfl, rfl⟩
          · have hb1I : decide ((1 : Int) < (b.toNat : Int)) = false := by simp; omega
            have hor : bits .or .u64 (acc : Int) ((b.toNat : Int) * 9223372036854775808) = ((acc + b.toNat * 9223372036854775808 : Nat) : Int) := by
              rw [u64_orv63 _ _ (by omega) (by omega) (by omega) (by omega) (by omega)]
              omega
            have hF : Lib.uvarintFrom 9 acc (b :: l.drop (9 + 1)) = (acc + b.toNat * 9223372036854775808, ((9 : Nat) : Int) + 1) := by simp [Lib.uvarintFrom, hb, hb1]
            have HR := Hid.mk (rd_ok (HD.out.trans hF))
            go_wp2
            go_ret3
            exact ⟨by unfold rdV; rw [HR.out]; rfl, rfl⟩
        · have hbI : decide ((b.toNat : Int) < 128) = false := by simp; omega
          obtain ⟨a2, ha2⟩ : ∃ a2 : Nat, bits .or .u64 (acc : Int) (IntKind.u64.wrap (IntKind.u64.wrap (bits .and .u8 (b.toNat : Int) 127) * 9223372036854775808)) = (a2 : Int) := ⟨_, (Int.toNat_of_nonneg (bits_lo_u64 _ _ _)).symm⟩
          have hhi := bits_hi_u64 .or (acc : Int) (IntKind.u64.wrap (IntKind.u64.wrap (bits .and .u8 (b.toNat : Int) 127) * 9223372036854775808))
          have hF : Lib.uvarintFrom 9 acc (b :: l.drop (9 + 1)) = Lib.uvarintFrom 10 a2 (l.drop (9 + 1)) := by
            rw [Lib.uvarintFrom_ten a2 (acc + b.toNat % 128 * 9223372036854775808)]
            simp [Lib.uvarintFrom, hb]
          have HF := Hid.mk (HD.out.trans hF)
          have hlt2 : a2 < 1180591620717411303424 := by omega
          clear hF hhi
          go_wp2
          go_round
          case rel => exact ⟨10, a2, by go_num, by first | rfl | (congr 1; omega), by omega, by omega, by show a2 < 1180591620717411303424; omega, HF.out⟩
          case measure => simp [intOf]; omega
      · have hF : Lib.uvarintFrom 10 acc (b :: l.drop (10 + 1)) = (0, -(((10 : Nat) : Int) + 1)) := by simp [Lib.uvarintFrom]
        have HR := Hid.mk (rd_big (HD.out.trans hF))
        go_wp2
        go_ret3
        exact ⟨by unfold rdV; rw [HR.out]; rfl, rfl⟩
    · have hnil : l.drop k = [] := List.drop_eq_nil_of_le (by omega)
      have HR : Hid (rd l = (0, 0, 1)) := rd_short (by rw [hdec, hnil]; rfl)
      have hkI : decide ((k : Int) < (l.length : Int)) = false := by simp; omega
      go_wp2
      go_ret3
      exact ⟨by unfold rdV; rw [HR.out]; rfl, rfl⟩
end Go.Proofs.YbulkefaeFmt
