/- The proof of Rows.LawS6572AWholeSaid: the frame is the kit's shell, the walk is ours. -/
import Derived.Test.YbulkefbuRows
import Derived.WalkKit
import Derived.ProofKit
import Derived.OpenShut
import Derived.ShutString
import Derived.ChangeOld
import Derived.Below
import Derived.SizedLaws
import Derived.SliceStrings
import Derived.Deep.Slices
import Derived.Test.YbulkefbuA3
namespace Go.Proofs.Ybulkefbu.lawS6572AWhole
open Go.ChangeShapes Go.WideShapes Go.ChangeAt Go.RowKit
open Go.ChangeMaps (open_string shut_string)
set_option linter.unusedVariables false

theorem own : ownKnob Yba.prog.godebug = none := by kernel_rfl
theorem laidOut : laidOutB Yba.prog = true := by kernel_rfl

theorem cells22 : Yba.prog.cellsOf 22 = 1 := by kernel_rfl
theorem cells9 : Yba.prog.cellsOf 9 = 1 := by kernel_rfl
theorem bytes22 : Yba.prog.bytesOf 22 = 24 := by kernel_rfl
theorem bytes9 : Yba.prog.bytesOf 9 = 16 := by kernel_rfl

theorem mem_weightsAll {H : Type} {P : Program} {e : TypeId} {d : DataW H} : ∀ {ds : List (DataW H)}, d ∈ ds → ∀ x ∈ d.weights P e, x ∈ DataW.weightsAll P e ds
  | d0 :: ds, hd, x, hx => by
    simp only [DataW.weightsAll, List.mem_append]
    rcases List.mem_cons.1 hd with rfl | hd
    · exact Or.inl hx
    · exact Or.inr (mem_weightsAll hd x hx)

/-- The strings, out of their reading and of the form's reach. -/
theorem given_of {H : Type} {enc : TypeId × Value → H} {W : World} {a : Option Addr} {n c : Nat} {d : DataW H} {p : List MemPlace}
    (h : DataW.Trod enc Yba.prog W 0 (fun _ => true) true 22 (.slice a n c) d p) (hw : ∀ x ∈ d.weights Yba.prog 22, x ≤ reachBytes) :
    ∃ ss : List ByteArray, n = ss.length ∧ B.Row W a ss ∧ (a = none → ss.length = 0) ∧ ss.length ≤ c ∧ c ≤ 8796093022207 ∧ ∀ k, k < ss.length → (ss.getD k ByteArray.empty).size ≤ 140737488355328 := by
  obtain ⟨fuel, hf⟩ := h
  rcases open_strings Yba.underlying22 Yba.underlying9 cells9 hf with ⟨hv, _⟩ | ⟨y, l', c', ss, hv, _, hl', hm', hsl, hd', hcell, hsz⟩
  · simp [Value.cells] at hv
    obtain ⟨rfl, rfl, rfl⟩ := hv
    exact ⟨[], rfl, fun h => absurd h (Nat.lt_irrefl 0), fun _ => rfl, Nat.le_refl _, by omega, fun k hk => absurd hk (Nat.not_lt_zero k)⟩
  · simp [Value.cells] at hv hsl
    obtain ⟨rfl, rfl, rfl⟩ := hv
    simp only [Prod.mk.injEq] at hd'
    have hlen : (ss.take n).length = n := by simp; omega
    have hcc := hw ((n + (ss.length - n)) * 16) (by
      rw [hd'.1]
      simp only [DataW.weights, Yba.underlying22, bytes9, strs, List.length_map, List.length_take, List.length_drop, List.mem_cons]
      left
      omega)
    simp only [reachBytes] at hcc
    refine ⟨ss.take n, hlen.symm, fun h0 => ?_, by simp, by omega, by omega, fun k hk => ?_⟩
    · obtain ⟨b, o, sp⟩ := y
      have h0' : 0 < n := by rw [hlen] at h0; exact h0
      obtain rfl : sp = none := by simpa [Addr.add] using World.cell?_spot (hcell 0 (by omega))
      refine ⟨b, o, rfl, fun j hj => ?_⟩
      rw [hlen] at hj
      have := hcell j (by omega)
      rw [add_plain] at this
      rw [this]
      simp [List.getD, hj]
    · have hk' : k < n := by rw [hlen] at hk; exact hk
      have hx := hw ((ss.take n)[k].data.toList.length) (by
        rw [hd'.1]
        simp only [DataW.weights, Yba.underlying22, strs, List.mem_cons, List.mem_append]
        refine Or.inr (Or.inl (mem_weightsAll (List.mem_map.2 ⟨(ss.take n)[k], List.getElem_mem _, rfl⟩) _ ?_))
        simp [DataW.weights])
      simp only [reachBytes] at hx
      rw [Array.length_toList] at hx
      have e : ((ss.take n).getD k ByteArray.empty) = (ss.take n)[k] := by simp [List.getD, hk', show k < ss.length by omega]
      rw [e]
      exact Nat.le_trans hx (by omega)

/-! ### THE ROW's STEP -/
set_option maxRecDepth 100000 in
theorem lifted (os : Os) (started : os.Started) (H : Type) (enc : TypeId × Value → H) :
    ReturnsInHanded {} Yba.checked os 3 .any (Rows.lawS6572AWholeSpec.pre6 enc Yba.prog Yba.f3 Rows.lawS6572AWholeRow.domain false) (Rows.lawS6572AWholeSpec.post enc Yba.prog Yba.f3 false true false false) := by
  refine returnsInHanded_of_change_sized (C := Yba.checked) own started (by kernel_rfl) Yba.func3
    (ChangeSpec.witness6 (enc := enc) (C := Yba.checked) false ⟨#[], #[.slice none 0 0], []⟩ 8 (by kernel_rfl) (by kernel_rfl) (by kernel_rfl) (by kernel_rfl)) ?_
  intro W base args ds gs before hval0 hW hcnd hsz0 _
  have hsz : (DataW.weightsEach Yba.prog (Yba.f3.params.toList ++ Rows.lawS6572AWholeSpec.plain.varTypes Yba.prog) (ds ++ gs)).all (· ≤ reachBytes) = true := hsz0
  clear hsz0
  have hval : ∀ (j : Nat) t v, Yba.f3.params[j]? = some t → args[j]? = some v → Value.okWide Yba.prog W .any base t v := hval0
  have hW' := hW
  obtain ⟨p, q, hA0, hV, rfl, hfz, hnd⟩ := hW
  have hA : DataW.TrodAll enc Yba.prog W 0 (fun _ => true) true Yba.f3.params.toList args.toList ds p := hA0
  rw [Yba.params3] at hA hval hsz
  obtain ⟨v0, vs0, d0, ds0, p0, q0, hargs, rfl, rfl, h0, r0⟩ := trodAll_cons hA
  obtain ⟨rfl, rfl, rfl⟩ := trodAll_nil r0
  obtain rfl : args = #[v0] := by cases args; simp_all
  obtain ⟨rfl, rfl⟩ := trodVars_none hV
  obtain ⟨a0, len0, cap0, rfl⟩ := okWide_slice Yba.underlying22 (hval 0 22 v0 rfl rfl)
  have k0 := h0
  have lt0 : ∀ x ∈ p0, x.block < W.heap.size := by obtain ⟨m, hm⟩ := k0; exact DataW.trod_lt m _ _ _ hm
  have hw0 : ∀ x ∈ d0.weights Yba.prog 22, x ≤ reachBytes := fun x hx => by
    have := List.all_eq_true.1 hsz _ (DataW.weights_mem_each (j := 0) (t := 22) (d := d0) rfl rfl x hx)
    simpa using this
  obtain ⟨ss, rfl, w1, w2, w3, w4, w5⟩ := given_of h0 hw0
  clear hA0 hval0
  refine (A.law_walk a0 ss cap0 W w1 w2 w3 w4 w5).mono fun e W' ⟨he, bel⟩ => ?_
  subst he
  exact ⟨_, rfl, _, _, _, [], _, [], hW', trodAll_mk1 (shut_bool Yba.underlying4 _), (trodAll_cons_mk (Below.trod laidOut (by kernel_rfl) (of_decide_eq_true (by kernel_rfl)) k0 bel lt0) trodAll_mk0), rfl, bel.frame _, fun h => by cases h⟩

theorem over : Rows.lawS6572AWholeRow.holds Yba.pinned (OpenSpec.ofChange Rows.lawS6572AWholeSpec) :=
  OpenClaim.holds_of_wide 3 Yba.f3 rfl rfl rfl rfl rfl rfl rfl ⟨rfl, rfl, rfl, rfl, rfl⟩ rfl rfl rfl rfl rfl (by kernel_rfl) Yba.func3 (by kernel_rfl)
    (of_decide_eq_true (by kernel_rfl)) (by unfold Func.isWrapper; first | (rw [if_pos (by decide +kernel)]; kernel_rfl) | (rw [if_neg (by decide +kernel)]; exact ⟨rfl, rfl⟩))
    (fun os started H enc _ => lifted os started H enc)

theorem proved : Rows.LawS6572AWholeSaid := over
#print axioms proved
end Go.Proofs.Ybulkefbu.lawS6572AWhole
