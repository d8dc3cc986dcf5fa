/- LawS6572CWhole: the contracts of its small callees. -/
import Derived.Test.YbulkefbuRows
import Derived.WalkKit
import Derived.Handy
import Derived.Deep.Light
import Derived.Deep.QuietTactic
import Derived.BigQuiet
import Derived.WalkSpells
import Derived.WalkLawsBesides
import Derived.Lib.Builder
namespace Go.Proofs.Ybulkefbu.C
open Go.RowKit
set_option linter.unusedVariables false

theorem Hid.mk {p : Prop} (h : p) : Hid p := h
theorem ret_int {k : IntKind} {a b : Int} (h : a = b) : Ending.returned (.int k a) = .returned (.int k b) := by rw [h]

theorem neqsame (w : World) (a : Addr) : (binOp .neq 52 (.pointer (some a)) (.pointer (some a))).run Yba.prog w = .ok (.bool false) w := by
  obtain ⟨j, hj⟩ := Option.isSome_iff_exists.1 (by kernel_rfl : (Yba.prog.info? 48).isSome = true)
  exact Lib.run_neq_ptr_same w a Yba.underlying52 hj

set_option maxHeartbeats 400000 in
theorem want_any (runs fr k r : Int) (w : World) (h0 : 0 ≤ fr) (h1 : fr ≤ runs) (h2 : runs ≤ 1048576) (k0 : 0 ≤ k) (k1 : k ≤ 7) (h : ((k = 0 ∨ runs - fr < k) ∧ r = runs - fr) ∨ (0 < k ∧ k ≤ runs - fr ∧ r = k)) :
    Calls Yba.prog 17 #[.int .i64 runs, .int .i64 fr, .int .i64 k] w fun e w' => e = .returned (.int .i64 r) ∧ w' = w := by
  have H := Hid.mk h
  clear h
  go_enter Yba.func17, Yba.ntmps17
  go_wp2
  all_goals
    go_ret
    refine ⟨ret_int ?_, rfl⟩
    have h := H.out
    go_light
    first | omega | (simp only [beq_iff_eq] at *; omega)

/-- The struct at index i of an array of pairs in block b. -/
def Pair (w : World) (b : Nat) (i : Nat) (l e d : Int) : Prop :=
  w.cell? ⟨b, i * 3, none⟩ = some (.int .i64 l) ∧ w.cell? ⟨b, i * 3 + 1, none⟩ = some (.int .i64 e) ∧ w.cell? ⟨b, i * 3 + 2, none⟩ = some (.int .i64 d)

/-- What a call of yield reads: the captured variables' boxes and what they lead to. -/
structure Env (w : World) (bf br bs bp bk bq : Nat) (ap ak sa : Nat) (n scap : Nat) (fr runs : Nat) (k : Int) (L E D : Nat → Int) (st : Nat → Nat) : Prop where
  cf : w.cell? ⟨bf, 0, none⟩ = some (.int .i64 fr)
  cr : w.cell? ⟨br, 0, none⟩ = some (.int .i64 runs)
  cs : w.cell? ⟨bs, 0, none⟩ = some (.slice (some ⟨sa, 0, none⟩) runs scap)
  cp : w.cell? ⟨bp, 0, none⟩ = some (.slice (some ⟨ap, 0, none⟩) n n)
  ck : w.cell? ⟨bk, 0, none⟩ = some (.slice (some ⟨ak, 0, none⟩) n n)
  cq : w.cell? ⟨bq, 0, none⟩ = some (.int .i64 k)
  pairs : ∀ i, i < n → Pair w ap i (L i) (E i) (D i)
  keep : ∀ i, i < n → Pair w ak i (L i) (E i) (D i)
  starts : ∀ r, r < runs → w.cell? ⟨sa, r, none⟩ = some (.int .i64 (st r))

set_option maxRecDepth 100000 in
set_option maxHeartbeats 2000000 in
/-- yield, at a run that is not the last that is asked for. -/
theorem yield_go (bd bo bf bg br bs bp bk bq ap ak sa n scap fr runs got s gl : Nat) (k : Int) (L E D : Nat → Int) (st : Nat → Nat) (gcap : Nat) (w : World)
    (h : Env w bf br bs bp bk bq ap ak sa n scap fr runs k L E D st)
    (cd : w.cell? ⟨bd, 0, none⟩ = some (.bool false)) (co : w.cell? ⟨bo, 0, none⟩ = some (.bool true)) (cg : w.cell? ⟨bg, 0, none⟩ = some (.int .i64 got))
    (fg : w.frozen? ⟨bg, 0, none⟩ = false)
    (hn : n ≤ 1048576) (hr : fr + got < runs) (hruns : runs ≤ n) (hsc : scap ≤ maxLen) (hrs : runs ≤ scap) (hs : st (fr + got) = s) (hgl : 0 < gl) (hsn : s + gl ≤ n) (he : (if fr + got + 1 < runs then st (fr + got + 1) else n) = s + gl) (hgc : gcap ≤ n) (hglen : gl ≤ gcap) (k0 : 0 ≤ k) (k1 : k ≤ 7) (hk : k = 0 ∨ (got : Int) + 1 ≠ k) (hgk : bg ≠ bq) :
    Calls Yba.prog 16 #[.slice (some ⟨ap, s * 3, none⟩) gl gcap, .pointer (some ⟨bd, 0, none⟩), .pointer (some ⟨bo, 0, none⟩), .pointer (some ⟨bf, 0, none⟩), .pointer (some ⟨bg, 0, none⟩), .pointer (some ⟨br, 0, none⟩), .pointer (some ⟨bs, 0, none⟩), .pointer (some ⟨bp, 0, none⟩), .pointer (some ⟨bk, 0, none⟩), .pointer (some ⟨bq, 0, none⟩)] w
      fun e w' => e = .returned (.bool true) ∧ ∃ q, w' = (w.setCell ⟨bg, 0, none⟩ (.int .i64 (got + 1))).drewN q := by
  have en := neqsame
  obtain ⟨cf, cr, cs, cp, ck, cq, hp, hkp, hst⟩ := h
  have HP := Hid.mk hp
  have HK := Hid.mk hkp
  have cst := hst _ hr
  rw [hs] at cst
  have HST := Hid.mk hst
  have HE := Hid.mk he
  clear hp hkp hst he hs
  unfold maxLen at hsc
  have hglI : (0 : Int) < (gl : Int) := by omega
  have hsI : (s : Int) < (n : Int) := by omega
  have cst2 : fr + got + 1 < runs → w.cell? ⟨sa, fr + got + 1, none⟩ = some (.int .i64 (s + gl)) := by
    intro h
    rw [HST.out _ h]
    have := HE.out
    rw [if_pos h] at this
    rw [this]
    simp
  have hnn : ¬ fr + got + 1 < runs → n = s + gl := by
    intro h
    have := HE.out
    rw [if_neg h] at this
    exact this
  have t1 : decide ((runs : Int) ≤ (fr : Int) + got) = false := by simp; omega
  have hqg : bq ≠ bg := fun h => hgk h.symm
  by_cases hlast : fr + got + 1 < runs
  · replace cst2 := cst2 hlast
    have t2 : decide ((fr : Int) + got + 1 < (runs : Int)) = true := by simp; omega
    have hw : IntKind.i64.wrap ((s : Int) + gl - s) = gl := by rw [IntWalk.i64_in _ (by omega)]; omega
    have HK2 := Hid.mk hk
    clear HE HST hk hnn
    go_enter Yba.func16, Yba.ntmps16
    go_wp2
    go_quiet (fail)
    go_wp2
    go_loopw [15] (fun j wr => ∃ (J q : Nat), J ≤ gl ∧ j = .int .i64 J ∧ wr = w.drewN q) (fun j _ => gl - (intOf j).toNat)
    case atStart => exact ⟨0, _, Nat.zero_le _, rfl, rfl⟩
    case round =>
      obtain ⟨J, q, hJ, rfl, rfl⟩ := hrel
      by_cases hlt : J < gl
      · obtain ⟨x0, x1, x2⟩ := HP.out (s + J) (by omega)
        obtain ⟨y0, y1, y2⟩ := HK.out (s + J) (by omega)
        rw [Nat.add_mul] at x0 x1 x2
        have hJI : (J : Int) < (gl : Int) := by omega
        have hsJ : (s : Int) + (J : Int) < (n : Int) := by omega
        generalize L (s + J) = l at *
        generalize E (s + J) = e at *
        generalize D (s + J) = d at *
        go_wp2
        go_quiet (fail)
        go_wp2
        go_roundw
        case rel => exact ⟨J + 1, _, by omega, by go_num, rfl⟩
        case measure => simp [intOf]; omega
      · rcases HK2.out with hk | hk
        · subst hk
          go_wp2
          go_ret
          exact ⟨rfl, _, rfl⟩
        · by_cases hk0 : k = 0
          · subst hk0
            go_wp2
            go_ret
            exact ⟨rfl, _, rfl⟩
          · have hb : ((got : Int) + 1 == k) = false := by simpa using hk
            have hk0' : 0 < k := by omega
            clear hk
            go_wp2
            go_ret
            exact ⟨rfl, _, rfl⟩
  · have hnn' := hnn hlast
    have t2 : decide ((fr : Int) + got + 1 < (runs : Int)) = false := by simp; omega
    have hw : IntKind.i64.wrap ((n : Int) - s) = gl := by rw [IntWalk.i64_in _ (by omega)]; omega
    have hnn2 : s + gl = n := hnn'.symm
    clear cst2 hnn'
    have HK2 := Hid.mk hk
    clear HE HST hk hnn
    go_enter Yba.func16, Yba.ntmps16
    go_wp2
    go_quiet (fail)
    go_wp2
    go_loopw [15] (fun j wr => ∃ (J q : Nat), J ≤ gl ∧ j = .int .i64 J ∧ wr = w.drewN q) (fun j _ => gl - (intOf j).toNat)
    case atStart => exact ⟨0, _, Nat.zero_le _, rfl, rfl⟩
    case round =>
      obtain ⟨J, q, hJ, rfl, rfl⟩ := hrel
      by_cases hlt : J < gl
      · obtain ⟨x0, x1, x2⟩ := HP.out (s + J) (by omega)
        obtain ⟨y0, y1, y2⟩ := HK.out (s + J) (by omega)
        rw [Nat.add_mul] at x0 x1 x2
        have hJI : (J : Int) < (gl : Int) := by omega
        have hsJ : (s : Int) + (J : Int) < (n : Int) := by omega
        generalize L (s + J) = l at *
        generalize E (s + J) = e at *
        generalize D (s + J) = d at *
        go_wp2
        go_quiet (fail)
        go_wp2
        go_roundw
        case rel => exact ⟨J + 1, _, by omega, by go_num, rfl⟩
        case measure => simp [intOf]; omega
      · rcases HK2.out with hk | hk
        · subst hk
          go_wp2
          go_ret
          exact ⟨rfl, _, rfl⟩
        · by_cases hk0 : k = 0
          · subst hk0
            go_wp2
            go_ret
            exact ⟨rfl, _, rfl⟩
          · have hb : ((got : Int) + 1 == k) = false := by simpa using hk
            have hk0' : 0 < k := by omega
            clear hk
            go_wp2
            go_ret
            exact ⟨rfl, _, rfl⟩

set_option maxRecDepth 100000 in
set_option maxHeartbeats 2000000 in
/-- yield, at the last run that is asked for: it says no. -/
theorem yield_stop (bd bo bf bg br bs bp bk bq ap ak sa n scap fr runs got s gl : Nat) (k : Int) (L E D : Nat → Int) (st : Nat → Nat) (gcap : Nat) (w : World)
    (h : Env w bf br bs bp bk bq ap ak sa n scap fr runs k L E D st)
    (cd : w.cell? ⟨bd, 0, none⟩ = some (.bool false)) (co : w.cell? ⟨bo, 0, none⟩ = some (.bool true)) (cg : w.cell? ⟨bg, 0, none⟩ = some (.int .i64 got))
    (fg : w.frozen? ⟨bg, 0, none⟩ = false) (fd : w.frozen? ⟨bd, 0, none⟩ = false)
    (hn : n ≤ 1048576) (hr : fr + got < runs) (hruns : runs ≤ n) (hsc : scap ≤ maxLen) (hrs : runs ≤ scap) (hs : st (fr + got) = s) (hgl : 0 < gl) (hsn : s + gl ≤ n) (he : (if fr + got + 1 < runs then st (fr + got + 1) else n) = s + gl) (hgc : gcap ≤ n) (hglen : gl ≤ gcap) (k0 : 0 ≤ k) (k1 : k ≤ 7) (hk : (got : Int) + 1 = k) (hgk : bg ≠ bq) (hdg : bd ≠ bg) :
    Calls Yba.prog 16 #[.slice (some ⟨ap, s * 3, none⟩) gl gcap, .pointer (some ⟨bd, 0, none⟩), .pointer (some ⟨bo, 0, none⟩), .pointer (some ⟨bf, 0, none⟩), .pointer (some ⟨bg, 0, none⟩), .pointer (some ⟨br, 0, none⟩), .pointer (some ⟨bs, 0, none⟩), .pointer (some ⟨bp, 0, none⟩), .pointer (some ⟨bk, 0, none⟩), .pointer (some ⟨bq, 0, none⟩)] w
      fun e w' => e = .returned (.bool false) ∧ ∃ q, w' = ((w.setCell ⟨bg, 0, none⟩ (.int .i64 (got + 1))).setCell ⟨bd, 0, none⟩ (.bool true)).drewN q := by
  have en := neqsame
  obtain ⟨cf, cr, cs, cp, ck, cq, hp, hkp, hst⟩ := h
  have HP := Hid.mk hp
  have HK := Hid.mk hkp
  have cst := hst _ hr
  rw [hs] at cst
  have HST := Hid.mk hst
  have HE := Hid.mk he
  clear hp hkp hst he hs
  unfold maxLen at hsc
  have hglI : (0 : Int) < (gl : Int) := by omega
  have hsI : (s : Int) < (n : Int) := by omega
  have cst2 : fr + got + 1 < runs → w.cell? ⟨sa, fr + got + 1, none⟩ = some (.int .i64 (s + gl)) := by
    intro h
    rw [HST.out _ h]
    have := HE.out
    rw [if_pos h] at this
    rw [this]
    simp
  have hnn : ¬ fr + got + 1 < runs → n = s + gl := by
    intro h
    have := HE.out
    rw [if_neg h] at this
    exact this
  have t1 : decide ((runs : Int) ≤ (fr : Int) + got) = false := by simp; omega
  have hqg : bq ≠ bg := fun h => hgk h.symm
  by_cases hlast : fr + got + 1 < runs
  · replace cst2 := cst2 hlast
    have t2 : decide ((fr : Int) + got + 1 < (runs : Int)) = true := by simp; omega
    have hw : IntKind.i64.wrap ((s : Int) + gl - s) = gl := by rw [IntWalk.i64_in _ (by omega)]; omega
    have HK2 := Hid.mk hk
    clear HE HST hk hnn
    go_enter Yba.func16, Yba.ntmps16
    go_wp2
    go_quiet (fail)
    go_wp2
    go_loopw [15] (fun j wr => ∃ (J q : Nat), J ≤ gl ∧ j = .int .i64 J ∧ wr = w.drewN q) (fun j _ => gl - (intOf j).toNat)
    case atStart => exact ⟨0, _, Nat.zero_le _, rfl, rfl⟩
    case round =>
      obtain ⟨J, q, hJ, rfl, rfl⟩ := hrel
      by_cases hlt : J < gl
      · obtain ⟨x0, x1, x2⟩ := HP.out (s + J) (by omega)
        obtain ⟨y0, y1, y2⟩ := HK.out (s + J) (by omega)
        rw [Nat.add_mul] at x0 x1 x2
        have hJI : (J : Int) < (gl : Int) := by omega
        have hsJ : (s : Int) + (J : Int) < (n : Int) := by omega
        generalize L (s + J) = l at *
        generalize E (s + J) = e at *
        generalize D (s + J) = d at *
        go_wp2
        go_quiet (fail)
        go_wp2
        go_roundw
        case rel => exact ⟨J + 1, _, by omega, by go_num, rfl⟩
        case measure => simp [intOf]; omega
      · have hk := HK2.out
        have hk0' : 0 < k := by omega
        have hb : ((got : Int) + 1 == k) = true := by simpa using hk
        clear hk
        go_wp2
        go_ret
        exact ⟨rfl, _, rfl⟩
  · have hnn' := hnn hlast
    have t2 : decide ((fr : Int) + got + 1 < (runs : Int)) = false := by simp; omega
    have hw : IntKind.i64.wrap ((n : Int) - s) = gl := by rw [IntWalk.i64_in _ (by omega)]; omega
    have hnn2 : s + gl = n := hnn'.symm
    clear cst2 hnn'
    have HK2 := Hid.mk hk
    clear HE HST hk hnn
    go_enter Yba.func16, Yba.ntmps16
    go_wp2
    go_quiet (fail)
    go_wp2
    go_loopw [15] (fun j wr => ∃ (J q : Nat), J ≤ gl ∧ j = .int .i64 J ∧ wr = w.drewN q) (fun j _ => gl - (intOf j).toNat)
    case atStart => exact ⟨0, _, Nat.zero_le _, rfl, rfl⟩
    case round =>
      obtain ⟨J, q, hJ, rfl, rfl⟩ := hrel
      by_cases hlt : J < gl
      · obtain ⟨x0, x1, x2⟩ := HP.out (s + J) (by omega)
        obtain ⟨y0, y1, y2⟩ := HK.out (s + J) (by omega)
        rw [Nat.add_mul] at x0 x1 x2
        have hJI : (J : Int) < (gl : Int) := by omega
        have hsJ : (s : Int) + (J : Int) < (n : Int) := by omega
        generalize L (s + J) = l at *
        generalize E (s + J) = e at *
        generalize D (s + J) = d at *
        go_wp2
        go_quiet (fail)
        go_wp2
        go_roundw
        case rel => exact ⟨J + 1, _, by omega, by go_num, rfl⟩
        case measure => simp [intOf]; omega
      · have hk := HK2.out
        have hk0' : 0 < k := by omega
        have hb : ((got : Int) + 1 == k) = true := by simpa using hk
        clear hk
        go_wp2
        go_ret
        exact ⟨rfl, _, rfl⟩

end Go.Proofs.Ybulkefbu.C
