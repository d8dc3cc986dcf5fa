/- The proof of Rows.LawS6572BPartSaid: the frame is the kit's shell, the walk is ours. -/
import Derived.Test.YbulkefbuRows
import Derived.WalkKit
import Derived.ProofKit
import Derived.OpenShut
import Derived.ShutString
import Derived.ChangeOld
import Derived.Below
import Derived.SizedLaws
import Derived.SliceStrings
import Derived.Deep.Slices
import Derived.Test.YbulkefbuB4
namespace Go.Proofs.Ybulkefbu.lawS6572BPart
open Go.ChangeShapes Go.WideShapes Go.ChangeAt Go.RowKit
open Go.ChangeMaps (open_string shut_string)
set_option linter.unusedVariables false

theorem own : ownKnob Yba.prog.godebug = none := by kernel_rfl
theorem laidOut : laidOutB Yba.prog = true := by kernel_rfl

theorem cells22 : Yba.prog.cellsOf 22 = 1 := by kernel_rfl
theorem cells9 : Yba.prog.cellsOf 9 = 1 := by kernel_rfl
theorem bytes22 : Yba.prog.bytesOf 22 = 24 := by kernel_rfl
theorem bytes9 : Yba.prog.bytesOf 9 = 16 := by kernel_rfl

theorem mem_weightsAll {H : Type} {P : Program} {e : TypeId} {d : DataW H} : ∀ {ds : List (DataW H)}, d ∈ ds → ∀ x ∈ d.weights P e, x ∈ DataW.weightsAll P e ds
  | d0 :: ds, hd, x, hx => by
    simp only [DataW.weightsAll, List.mem_append]
    rcases List.mem_cons.1 hd with rfl | hd
    · exact Or.inl hx
    · exact Or.inr (mem_weightsAll hd x hx)

/-- The rows, out of their reading and of the form's reach. -/
theorem given_of {H : Type} {enc : TypeId × Value → H} {W : World} {a : Option Addr} {n c : Nat} {d : DataW H} {p : List MemPlace}
    (h : DataW.Trod enc Yba.prog W 0 (fun _ => true) true 25 (.slice a n c) d p) (hw : ∀ x ∈ d.weights Yba.prog 25, x ≤ reachBytes) : ∃ (N : Nat → Bool) (R : Nat → List ByteArray), B.Given W a n c N R := by
  obtain ⟨fuel, hf⟩ := h
  rcases Go.Deep.open_slice1 Yba.underlying25 cells22 hf with ⟨hcs, _⟩ | ⟨x, l, cc, m, k, V, D, Pl, hcs, _, hl, hm, hmm, hd, hx⟩
  · simp [Value.cells] at hcs
    obtain ⟨rfl, rfl, rfl⟩ := hcs
    exact ⟨fun _ => true, fun _ => [], fun h => absurd h (Nat.lt_irrefl 0), fun _ => rfl, Nat.zero_le _, fun i h => absurd h (Nat.not_lt_zero i), fun i h => absurd h (Nat.not_lt_zero i), fun i h => absurd h (Nat.not_lt_zero i)⟩
  · simp [Value.cells] at hcs
    obtain ⟨rfl, rfl, rfl⟩ := hcs
    simp at hmm
    subst hmm
    simp only [Prod.mk.injEq] at hd
    obtain ⟨hd, _⟩ := hd
    have hb : n ≤ 5864062014805 := by
      have := hw ((n + (m - n)) * 24) (by rw [hd]; simp [DataW.weights, Yba.underlying25, bytes22])
      simp only [reachBytes] at this
      omega
    have each : ∀ i, i < n → ∃ q : Option Addr × List ByteArray × Nat, V i = .slice q.1 q.2.1.length q.2.2 ∧ B.Row W q.1 q.2.1 ∧ (q.1 = none → q.2.1.length = 0) ∧ q.2.1.length ≤ 8796093022207 ∧ ∀ s ∈ q.2.1, s.size ≤ maxLen := by
      intro i hi
      obtain ⟨c0, t0⟩ := hx i (by omega)
      have hwi : ∀ y ∈ (D i).weights Yba.prog 22, y ≤ reachBytes := fun y hy => hw y (by
        rw [hd]
        simp only [DataW.weights, Yba.underlying25, List.mem_cons, List.mem_append]
        exact Or.inr (Or.inl (mem_weightsAll (List.mem_map.2 ⟨i, by simpa using hi, rfl⟩) y hy)))
      rcases open_strings Yba.underlying22 Yba.underlying9 cells9 t0 with ⟨hv, _⟩ | ⟨y, l', c', ss, hv, _, hl', hm', hsl, hd', hcell, hsz⟩
      · simp at hv
        exact ⟨(none, [], 0), by rw [hv]; rfl, fun h => absurd h (Nat.lt_irrefl 0), fun _ => rfl, Nat.zero_le _, by simp⟩
      · simp at hv hsl
        simp only [Prod.mk.injEq] at hd'
        have hlen : (ss.take l').length = l' := by simp; omega
        refine ⟨(some y, ss.take l', c'), by rw [hv, hlen], fun h0 => ?_, by simp, ?_, fun s hs => hsz s (List.mem_of_mem_take hs)⟩
        · obtain ⟨b, o, sp⟩ := y
          have h0' : 0 < l' := by rw [hlen] at h0; exact h0
          obtain rfl : sp = none := by simpa [Addr.add] using World.cell?_spot (hcell 0 (by omega))
          refine ⟨b, o, rfl, fun j hj => ?_⟩
          rw [hlen] at hj
          have := hcell j (by omega)
          rw [add_plain] at this
          rw [this]
          simp [List.getD, hj]
        · have := hwi ((l' + (ss.length - l')) * 16) (by
            rw [hd'.1]
            simp only [DataW.weights, Yba.underlying22, bytes9, strs, List.length_map, List.length_take, List.length_drop, List.mem_cons]
            left
            omega)
          simp only [reachBytes] at this
          rw [hlen]
          omega
    obtain ⟨q, hq⟩ := Go.Deep.choose_lt each
    refine ⟨fun i => (q i).1.isNone, fun i => (q i).2.1, fun h0 => ?_, (fun h => by cases h), hb, fun i hi => (hq i hi).2.2.2.1, fun i hi hN => (hq i hi).2.2.1 (by simpa using hN), fun i hi => (hq i hi).2.2.2.2⟩
    obtain ⟨b, o, sp⟩ := x
    obtain rfl : sp = none := by simpa [Addr.add] using World.cell?_spot (hx 0 (by omega)).1
    refine ⟨b, o, rfl, fun i hi => ⟨(q i).1, (q i).2.2, ?_, rfl, (hq i hi).2.1⟩⟩
    have := (hx i (by omega)).1
    rw [add_plain] at this
    rw [this, (hq i hi).1]

/-! ### THE ROW's STEP -/
set_option maxRecDepth 100000 in
theorem lifted (os : Os) (started : os.Started) (H : Type) (enc : TypeId × Value → H) :
    ReturnsInHanded {} Yba.checked os 4 .any (Rows.lawS6572BPartSpec.pre6 enc Yba.prog Yba.f4 Rows.lawS6572BPartRow.domain false) (Rows.lawS6572BPartSpec.post enc Yba.prog Yba.f4 false true false false) := by
  refine returnsInHanded_of_change_sized (C := Yba.checked) own started (by kernel_rfl) Yba.func4
    (ChangeSpec.witness6 (enc := enc) (C := Yba.checked) false ⟨#[], #[.string ByteArray.empty, .slice none 0 0], []⟩ 8 (by kernel_rfl) (by kernel_rfl) (by kernel_rfl) (by kernel_rfl)) ?_
  intro W base args ds gs before hval0 hW hcnd hsz0 _
  have hsz : (DataW.weightsEach Yba.prog (Yba.f4.params.toList ++ Rows.lawS6572BPartSpec.plain.varTypes Yba.prog) (ds ++ gs)).all (· ≤ reachBytes) = true := hsz0
  clear hsz0
  have hval : ∀ (j : Nat) t v, Yba.f4.params[j]? = some t → args[j]? = some v → Value.okWide Yba.prog W .any base t v := hval0
  have hW' := hW
  obtain ⟨p, q, hA0, hV, rfl, hfz, hnd⟩ := hW
  have hA : DataW.TrodAll enc Yba.prog W 0 (fun _ => true) true Yba.f4.params.toList args.toList ds p := hA0
  rw [Yba.params4] at hA hval hsz
  obtain ⟨v0, vs0, d0, ds0, p0, q0, hargs, rfl, rfl, h0, r0⟩ := trodAll_cons hA
  obtain ⟨v1, vs1, d1, ds1, p1, q1, rfl, rfl, rfl, h1, r1⟩ := trodAll_cons r0
  obtain ⟨rfl, rfl, rfl⟩ := trodAll_nil r1
  obtain rfl : args = #[v0, v1] := by cases args; simp_all
  obtain ⟨rfl, rfl⟩ := trodVars_none hV
  obtain ⟨s0, rfl, rfl, rfl, hs0⟩ := open_string Yba.underlying9 (hval 0 9 v0 rfl rfl) h0
  obtain ⟨a1, len1, cap1, rfl⟩ := okWide_slice Yba.underlying25 (hval 1 25 v1 rfl rfl)
  have k1 := h1
  have lt1 : ∀ x ∈ p1, x.block < W.heap.size := by obtain ⟨m, hm⟩ := k1; exact DataW.trod_lt m _ _ _ hm
  have hw1 : ∀ x ∈ d1.weights Yba.prog 25, x ≤ reachBytes := fun x hx => by
    have := List.all_eq_true.1 hsz _ (DataW.weights_mem_each (j := 1) (t := 25) (d := d1) rfl rfl x hx)
    simpa using this
  obtain ⟨N, R, w1⟩ := given_of h1 hw1
  clear hA0 hval0
  refine (B.law_walk s0 a1 len1 cap1 N R W w1).mono fun e W' ⟨he, bel⟩ => ?_
  subst he
  exact ⟨_, rfl, _, _, _, [], _, [], hW', trodAll_mk1 (shut_bool Yba.underlying4 _), (trodAll_cons_mk (shut_string Yba.underlying9 hs0) (trodAll_cons_mk (Below.trod laidOut (by kernel_rfl) (of_decide_eq_true (by kernel_rfl)) k1 bel lt1) trodAll_mk0)), rfl, bel.frame _, fun h => by cases h⟩

theorem over : Rows.lawS6572BPartRow.holds Yba.pinned (OpenSpec.ofChange Rows.lawS6572BPartSpec) :=
  OpenClaim.holds_of_wide 4 Yba.f4 rfl rfl rfl rfl rfl rfl rfl ⟨rfl, rfl, rfl, rfl, rfl⟩ rfl rfl rfl rfl rfl (by kernel_rfl) Yba.func4 (by kernel_rfl)
    (of_decide_eq_true (by kernel_rfl)) (by unfold Func.isWrapper; first | (rw [if_pos (by decide +kernel)]; kernel_rfl) | (rw [if_neg (by decide +kernel)]; exact ⟨rfl, rfl⟩))
    (fun os started H enc _ => lifted os started H enc)

theorem proved : Rows.LawS6572BPartSaid := over
#print axioms proved
end Go.Proofs.Ybulkefbu.lawS6572BPart
