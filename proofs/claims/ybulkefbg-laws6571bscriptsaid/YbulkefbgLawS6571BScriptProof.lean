/- The proof of Rows.LawS6571BScriptSaid: the frame is the kit's shell, the walk is ours. -/
import Derived.Test.YbulkefbgRows
import Derived.WalkKit
import Derived.ProofKit
import Derived.OpenShut
import Derived.ShutString
import Derived.ChangeOld
import Derived.Below
import Derived.Deep.SlicePairs
import Derived.Test.YbulkefbgScript
namespace Go.Proofs.Ybulkefbg.lawS6571BScript
open Go.ChangeShapes Go.WideShapes Go.ChangeAt Go.RowKit
open Go.ChangeMaps (open_string shut_string)
set_option linter.unusedVariables false

theorem own : ownKnob Yba.prog.godebug = none := by kernel_rfl
theorem laidOut : laidOutB Yba.prog = true := by kernel_rfl

open Rd
theorem Yba.cells32 : Yba.prog.cellsOf 32 = 2 := by kernel_rfl
theorem Yba.cells5 : Yba.prog.cellsOf 5 = 1 := by kernel_rfl
theorem Yba.cells23 : Yba.prog.cellsOf 23 = 1 := by kernel_rfl

/-- The steps, out of their reading. -/
theorem steps_of {H : Type} {enc : TypeId × Value → H} {W : World} {a2 : Option Addr} {len2 cap2 : Nat} {d : DataW H} {p : List MemPlace}
    (h : DataW.Trod enc Yba.prog W 0 (fun _ => true) true 30 (.slice a2 len2 cap2) d p) : ∃ (b o : Nat) (O N : Nat → Int), Rd.Steps W a2 len2 cap2 b o O N := by
  obtain ⟨fuel, hf⟩ := h
  rcases Go.Deep.open_slice_pairs Yba.underlying30 Yba.underlying32 Yba.cells32 rfl rfl Yba.cells5 Yba.cells23 hf with ⟨hcs, _⟩ | ⟨x, l, c, m, n, V0, V1, D0, D1, P0, P1, hcs, _, hl, hm, hmm, _, hx⟩
  · simp [Value.cells] at hcs
    obtain ⟨rfl, rfl, rfl⟩ := hcs
    exact ⟨0, 0, fun _ => 0, fun _ => 0, Nat.le_refl _, Nat.zero_le _, fun h => absurd h (Nat.lt_irrefl 0), fun i h => absurd h (Nat.not_lt_zero i), fun i h => absurd h (Nat.not_lt_zero i)⟩
  · simp [Value.cells] at hcs
    obtain ⟨rfl, rfl, rfl⟩ := hcs
    simp at hmm
    subst hmm
    have each : ∀ i, i < len2 → ∃ q : Int × Int, W.cell? (x.add (i * 2)) = some (.int .u8 q.1) ∧ W.cell? (x.add (i * 2 + 1)) = some (.int .u64 q.2) ∧ (0 ≤ q.1 ∧ q.1 ≤ 255) ∧ 0 ≤ q.2 ∧ q.2 ≤ 18446744073709551615 := by
      intro i hi
      obtain ⟨c0, c1, t0, t1⟩ := hx i (by omega)
      obtain ⟨n0, e0, _, f0⟩ := DataW.trod_int Yba.underlying5 t0
      obtain ⟨n1, e1, _, f1⟩ := DataW.trod_int Yba.underlying23 t1
      simp at e0 e1
      rw [e0] at c0; rw [e1] at c1
      exact ⟨(n0, n1), c0, c1, bounds_u8 f0, bounds_u64 f1⟩
    obtain ⟨q, hq⟩ := Go.Deep.choose_lt each
    by_cases h0 : 0 < len2
    · obtain ⟨b, o, sp⟩ := x
      obtain rfl : sp = none := by simpa [Addr.add] using World.cell?_spot (hq 0 h0).1
      refine ⟨b, o, fun i => (q i).1, fun i => (q i).2, hl, hm, fun _ => rfl, fun i hi => ?_, fun i hi => ?_⟩
      · obtain ⟨c0, c1, f0, f1⟩ := hq i hi
        rw [add_plain] at c0
        exact ⟨c0, f0⟩
      · obtain ⟨c0, c1, f0, f1⟩ := hq i hi
        rw [add_plain, ← Nat.add_assoc] at c1
        exact ⟨c1, f1⟩
    · exact ⟨0, 0, fun _ => 0, fun _ => 0, hl, hm, fun h => absurd h h0, fun i h => absurd h (by omega), fun i h => absurd h (by omega)⟩

/-! ### THE ROW's STEP: WRITTEN OUT: LEAVE IT -/
set_option maxRecDepth 100000 in
theorem lifted (os : Os) (started : os.Started) (H : Type) (enc : TypeId × Value → H) :
    ReturnsInHanded {} Yba.checked os 4 .any (Rows.lawS6571BScriptSpec.pre6 enc Yba.prog Yba.f4 Rows.lawS6571BScriptRow.domain false) (Rows.lawS6571BScriptSpec.post enc Yba.prog Yba.f4 false true false false) := by
  refine returnsInHanded_of_change (C := Yba.checked) own started (by kernel_rfl) Yba.func4
    (ChangeSpec.witness6 (enc := enc) (C := Yba.checked) false ⟨#[], #[.slice none 0 0, .int .u64 0, .slice none 0 0], []⟩ 8 (by kernel_rfl) (by kernel_rfl) (by kernel_rfl) (by kernel_rfl)) ?_
  intro W base args ds gs before hval0 hW hcnd _
  have hval : ∀ (j : Nat) t v, Yba.f4.params[j]? = some t → args[j]? = some v → Value.okWide Yba.prog W .any base t v := hval0
  have hW' := hW
  obtain ⟨p, q, hA0, hV, rfl, hfz, hnd⟩ := hW
  have hA : DataW.TrodAll enc Yba.prog W 0 (fun _ => true) true Yba.f4.params.toList args.toList ds p := hA0
  rw [Yba.params4] at hA hval
  obtain ⟨v0, vs0, d0, ds0, p0, q0, hargs, rfl, rfl, h0, r0⟩ := trodAll_cons hA
  obtain ⟨v1, vs1, d1, ds1, p1, q1, rfl, rfl, rfl, h1, r1⟩ := trodAll_cons r0
  obtain ⟨v2, vs2, d2, ds2, p2, q2, rfl, rfl, rfl, h2, r2⟩ := trodAll_cons r1
  obtain ⟨rfl, rfl, rfl⟩ := trodAll_nil r2
  obtain rfl : args = #[v0, v1, v2] := by cases args; simp_all
  obtain ⟨rfl, rfl⟩ := trodVars_none hV
  obtain ⟨a0, len0, cap0, rfl⟩ := okWide_slice Yba.underlying22 (hval 0 22 v0 rfl rfl)
  have k0 := h0
  have lt0 : ∀ x ∈ p0, x.block < W.heap.size := by obtain ⟨m, hm⟩ := k0; exact DataW.trod_lt m _ _ _ hm
  obtain ⟨z0, w0⟩ : ∃ zs, IsRow .u8 W a0 len0 cap0 zs := by
    obtain ⟨fuel, hf⟩ := h0
    rcases open_ints Yba.underlying22 Yba.underlying5 (by kernel_rfl) hf with ⟨hcs, _⟩ | ⟨x, l, c, zs, hcs, _, hl, hm, hz, _, hcell, hwz⟩
    · simp [Value.cells] at hcs
      obtain ⟨rfl, rfl, rfl⟩ := hcs
      exact ⟨[], .inl ⟨rfl, rfl, rfl, rfl⟩⟩
    · simp [Value.cells] at hcs
      obtain ⟨rfl, rfl, rfl⟩ := hcs
      exact ⟨zs, .inr ⟨_, rfl, hl, hm, by simpa using hz, hcell, hwz⟩⟩
  obtain ⟨a1, rfl, rfl, rfl, w1⟩ := open_int Yba.underlying23 (hval 1 23 v1 rfl rfl) h1
  obtain ⟨a2, len2, cap2, rfl⟩ := okWide_slice Yba.underlying30 (hval 2 30 v2 rfl rfl)
  have k2 := h2
  have lt2 : ∀ x ∈ p2, x.block < W.heap.size := by obtain ⟨m, hm⟩ := k2; exact DataW.trod_lt m _ _ _ hm
  obtain ⟨b, o, O, N, w2⟩ := steps_of h2
  clear hA0 hval0
  refine (script a0 len0 cap0 z0 a1 a2 len2 cap2 b o O N W w0 w2).mono fun e W' ⟨he, bel⟩ => ?_
  subst he
  exact ⟨_, rfl, _, _, _, [], _, [], hW', trodAll_mk1 (shut_bool Yba.underlying4 _), (trodAll_cons_mk (Below.trod laidOut (by kernel_rfl) (of_decide_eq_true (by kernel_rfl)) k0 bel lt0) (trodAll_cons_mk (shut_int Yba.underlying23 w1) (trodAll_cons_mk (Below.trod laidOut (by kernel_rfl) (of_decide_eq_true (by kernel_rfl)) k2 bel lt2) trodAll_mk0))), rfl, bel.frame _, fun h => by cases h⟩

theorem over : Rows.lawS6571BScriptRow.holds Yba.pinned (OpenSpec.ofChange Rows.lawS6571BScriptSpec) :=
  OpenClaim.holds_of_wide 4 Yba.f4 rfl rfl rfl rfl rfl rfl rfl ⟨rfl, rfl, rfl, rfl, rfl⟩ rfl rfl rfl rfl rfl (by kernel_rfl) Yba.func4 (by kernel_rfl)
    (of_decide_eq_true (by kernel_rfl)) (by unfold Func.isWrapper; first | (rw [if_pos (by decide +kernel)]; kernel_rfl) | (rw [if_neg (by decide +kernel)]; exact ⟨rfl, rfl⟩))
    (fun os started H enc _ => lifted os started H enc)

/-- ████ THE STATEMENT ████ -/
theorem proved : Rows.LawS6571BScriptSaid := over
#print axioms proved
end Go.Proofs.Ybulkefbg.lawS6571BScript
