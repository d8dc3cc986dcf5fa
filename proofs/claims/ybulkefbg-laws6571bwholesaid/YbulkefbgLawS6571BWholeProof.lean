/- The proof of Rows.LawS6571BWholeSaid: the frame is the kit's shell, the walk is ours. -/
import Derived.Test.YbulkefbgRows
import Derived.WalkKit
import Derived.ProofKit
import Derived.OpenShut
import Derived.ShutString
import Derived.ChangeOld
import Derived.Below
import Derived.Test.YbulkefbgWalks
namespace Go.Proofs.Ybulkefbg.lawS6571BWhole
open Go.ChangeShapes Go.WideShapes Go.ChangeAt Go.RowKit
open Go.ChangeMaps (open_string shut_string)
set_option linter.unusedVariables false

theorem own : ownKnob Yba.prog.godebug = none := by kernel_rfl
theorem laidOut : laidOutB Yba.prog = true := by kernel_rfl

open Rd

set_option maxHeartbeats 1000000 in
theorem walk (a0 : Option Addr) (len0 cap0 : Nat) (z0 : List Int) (a1 : Int) (a2 : Int) (a3 : Int) (a4 : Bool) (w : World) (w0 : IsRow .u8 w a0 len0 cap0 z0) (w1 : (Lit.int .u64 a1).wf = true) (w2 : (Lit.int .i64 a2).wf = true) (w3 : (Lit.int .u64 a3).wf = true) :
    Calls Yba.prog 3 #[.slice a0 len0 cap0, .int .u64 a1, .int .i64 a2, .int .u64 a3, .bool a4] w fun e w' => e = .returned (.bool true) ∧ Below w.heap.size w w' := by
  have e1 := eqnil
  obtain ⟨l1, l2, l3, l4⟩ := w0.len_le
  have l2' := l2
  unfold maxLen at l2'
  by_cases hbig : 1048576 < len0
  · go_enter Yba.func3, Yba.ntmps3
    go_wp2
    go_ret
    exact ⟨rfl, Below.refl _ _⟩
  · have W0 : Hid (IsRow .u8 w a0 len0 cap0 z0) := w0
    clear w0
    cases a4 with
    | true =>
      go_enter Yba.func3, Yba.ntmps3
      go_wp2_with (first | (go_at_call 5; refine (clone_any a0 len0 cap0 z0 _ (by omega) W0.out).mono ?_; rintro e w1 ⟨p, c, rfl, hp, hB, hb⟩) | (go_at_call 6; refine (stop_old _ _ (by simp [go_sem])).mono ?_; rintro e w' ⟨rfl, rfl⟩) | (go_at_call 7; refine (same_self a0 len0 cap0 _ l1 l2 l3).mono ?_; rintro e w' ⟨rfl, k, rfl⟩) | (go_at_call 8; refine (Yba.bytes_Equal_all p a0 len0 c len0 cap0 (z0.take len0) (z0.take len0) _ l4 l4 (bytesIn_below hB (by repeat (first | exact Below.refl _ _ | refine Rd.Below.drewN ?_ _ | refine Below.drew ?_ | refine Below.setCell ?_ (by simp) _ | refine Below.alloc ?_ (by simp) _))) (W0.out.bytesIn (by repeat (first | exact hb | exact Below.refl _ _ | refine Rd.Below.drewN ?_ _ | refine Below.drew ?_ | refine Below.setCell ?_ (by have := hb.size; simp; omega) _ | refine Below.alloc ?_ (by have := hb.size; simp; omega) _)))).mono ?_; rintro e w' ⟨rfl, rfl⟩))
      all_goals
        go_ret
        exact ⟨rfl, by repeat (first | exact hb | exact Below.refl _ _ | refine Rd.Below.drewN ?_ _ | refine Below.drew ?_ | refine Below.setCell ?_ (by have := hb.size; simp; omega) _ | refine Below.alloc ?_ (by have := hb.size; simp; omega) _)⟩
    | false =>
      go_enter Yba.func3, Yba.ntmps3
      go_wp2_with (first | (go_at_call 5; refine (clone_any a0 len0 cap0 z0 _ (by omega) W0.out).mono ?_; rintro e w1 ⟨p, c, rfl, hp, hB, hb⟩) | (go_at_call 6; refine (stop_new' _ a1 a2 a3 (IntKind.u64.wrap (IntKind.u64.wrap a2 + a1)) _ (by rw [Int.add_comm]) (by simp [go_sem]) (by simp [go_sem]) (by simp [go_sem]) (by simp [go_sem]) (by simp [go_sem]) (by simp [go_sem])).mono ?_; rintro e w' ⟨rfl, n, rfl⟩) | (go_at_call 7; refine (same_self a0 len0 cap0 _ l1 l2 l3).mono ?_; rintro e w' ⟨rfl, k, rfl⟩) | (go_at_call 8; refine (Yba.bytes_Equal_all p a0 len0 c len0 cap0 (z0.take len0) (z0.take len0) _ l4 l4 (bytesIn_below hB (by repeat (first | exact Below.refl _ _ | refine Rd.Below.drewN ?_ _ | refine Below.drew ?_ | refine Below.setCell ?_ (by simp) _ | refine Below.alloc ?_ (by simp) _))) (W0.out.bytesIn (by repeat (first | exact hb | exact Below.refl _ _ | refine Rd.Below.drewN ?_ _ | refine Below.drew ?_ | refine Below.setCell ?_ (by have := hb.size; simp; omega) _ | refine Below.alloc ?_ (by have := hb.size; simp; omega) _)))).mono ?_; rintro e w' ⟨rfl, rfl⟩))
      all_goals
        go_ret
        exact ⟨rfl, by repeat (first | exact hb | exact Below.refl _ _ | refine Rd.Below.drewN ?_ _ | refine Below.drew ?_ | refine Below.setCell ?_ (by have := hb.size; simp; omega) _ | refine Below.alloc ?_ (by have := hb.size; simp; omega) _)⟩

/-! ### THE ROW's STEP: WRITTEN OUT: LEAVE IT -/
set_option maxRecDepth 100000 in
theorem lifted (os : Os) (started : os.Started) (H : Type) (enc : TypeId × Value → H) :
    ReturnsInHanded {} Yba.checked os 3 .any (Rows.lawS6571BWholeSpec.pre6 enc Yba.prog Yba.f3 Rows.lawS6571BWholeRow.domain false) (Rows.lawS6571BWholeSpec.post enc Yba.prog Yba.f3 false true false false) := by
  refine returnsInHanded_of_change (C := Yba.checked) own started (by kernel_rfl) Yba.func3
    (ChangeSpec.witness6 (enc := enc) (C := Yba.checked) false ⟨#[], #[.slice none 0 0, .int .u64 0, .int .i64 0, .int .u64 0, .bool false], []⟩ 8 (by kernel_rfl) (by kernel_rfl) (by kernel_rfl) (by kernel_rfl)) ?_
  intro W base args ds gs before hval0 hW hcnd _
  have hval : ∀ (j : Nat) t v, Yba.f3.params[j]? = some t → args[j]? = some v → Value.okWide Yba.prog W .any base t v := hval0
  have hW' := hW
  obtain ⟨p, q, hA0, hV, rfl, hfz, hnd⟩ := hW
  have hA : DataW.TrodAll enc Yba.prog W 0 (fun _ => true) true Yba.f3.params.toList args.toList ds p := hA0
  rw [Yba.params3] at hA hval
  obtain ⟨v0, vs0, d0, ds0, p0, q0, hargs, rfl, rfl, h0, r0⟩ := trodAll_cons hA
  obtain ⟨v1, vs1, d1, ds1, p1, q1, rfl, rfl, rfl, h1, r1⟩ := trodAll_cons r0
  obtain ⟨v2, vs2, d2, ds2, p2, q2, rfl, rfl, rfl, h2, r2⟩ := trodAll_cons r1
  obtain ⟨v3, vs3, d3, ds3, p3, q3, rfl, rfl, rfl, h3, r3⟩ := trodAll_cons r2
  obtain ⟨v4, vs4, d4, ds4, p4, q4, rfl, rfl, rfl, h4, r4⟩ := trodAll_cons r3
  obtain ⟨rfl, rfl, rfl⟩ := trodAll_nil r4
  obtain rfl : args = #[v0, v1, v2, v3, v4] := by cases args; simp_all
  obtain ⟨rfl, rfl⟩ := trodVars_none hV
  obtain ⟨a0, len0, cap0, rfl⟩ := okWide_slice Yba.underlying22 (hval 0 22 v0 rfl rfl)
  have k0 := h0
  have lt0 : ∀ x ∈ p0, x.block < W.heap.size := by obtain ⟨m, hm⟩ := k0; exact DataW.trod_lt m _ _ _ hm
  obtain ⟨z0, w0⟩ : ∃ zs, IsRow .u8 W a0 len0 cap0 zs := by
    obtain ⟨fuel, hf⟩ := h0
    rcases open_ints Yba.underlying22 Yba.underlying5 (by kernel_rfl) hf with ⟨hcs, _⟩ | ⟨x, l, c, zs, hcs, _, hl, hm, hz, _, hcell, hwz⟩
    · simp [Value.cells] at hcs
      obtain ⟨rfl, rfl, rfl⟩ := hcs
      exact ⟨[], .inl ⟨rfl, rfl, rfl, rfl⟩⟩
    · simp [Value.cells] at hcs
      obtain ⟨rfl, rfl, rfl⟩ := hcs
      exact ⟨zs, .inr ⟨_, rfl, hl, hm, by simpa using hz, hcell, hwz⟩⟩
  obtain ⟨a1, rfl, rfl, rfl, w1⟩ := open_int Yba.underlying23 (hval 1 23 v1 rfl rfl) h1
  obtain ⟨a2, rfl, rfl, rfl, w2⟩ := open_int Yba.underlying3 (hval 2 3 v2 rfl rfl) h2
  obtain ⟨a3, rfl, rfl, rfl, w3⟩ := open_int Yba.underlying23 (hval 3 23 v3 rfl rfl) h3
  obtain ⟨a4, rfl, rfl, rfl⟩ := open_bool Yba.underlying4 (hval 4 4 v4 rfl rfl) h4
  clear hA0 hval0
  refine (walk a0 len0 cap0 z0 a1 a2 a3 a4 W w0 w1 w2 w3).mono fun e W' ⟨he, bel⟩ => ?_
  subst he
  exact ⟨_, rfl, _, _, _, [], _, [], hW', trodAll_mk1 (shut_bool Yba.underlying4 _), (trodAll_cons_mk (Below.trod laidOut (by kernel_rfl) (of_decide_eq_true (by kernel_rfl)) k0 bel lt0) (trodAll_cons_mk (shut_int Yba.underlying23 w1) (trodAll_cons_mk (shut_int Yba.underlying3 w2) (trodAll_cons_mk (shut_int Yba.underlying23 w3) (trodAll_cons_mk (shut_bool Yba.underlying4 _) trodAll_mk0))))), rfl, bel.frame _, fun h => by cases h⟩

theorem over : Rows.lawS6571BWholeRow.holds Yba.pinned (OpenSpec.ofChange Rows.lawS6571BWholeSpec) :=
  OpenClaim.holds_of_wide 3 Yba.f3 rfl rfl rfl rfl rfl rfl rfl ⟨rfl, rfl, rfl, rfl, rfl⟩ rfl rfl rfl rfl rfl (by kernel_rfl) Yba.func3 (by kernel_rfl)
    (of_decide_eq_true (by kernel_rfl)) (by unfold Func.isWrapper; first | (rw [if_pos (by decide +kernel)]; kernel_rfl) | (rw [if_neg (by decide +kernel)]; exact ⟨rfl, rfl⟩))
    (fun os started H enc _ => lifted os started H enc)

/-- ████ THE STATEMENT ████ -/
theorem proved : Rows.LawS6571BWholeSaid := over
#print axioms proved
end Go.Proofs.Ybulkefbg.lawS6571BWhole
