/- The proof of Rows.LawS6569CWholeToldSaid: told and tied. -/
import Derived.Test.YbulkefaeFmtGiven
import Derived.Test.YbulkefaeFmtTie
import Derived.Test.YbulkefaeFmtCards
import Derived.Stop.JoinedTold
import Derived.Stop.LaidTwo
import Derived.Lib.LaidU8
import Derived.Deep.DeepWitnessRef
import Derived.Deep.DeepWitnessRowRef
import Derived.Deep.DeepLaidRun
import Derived.OpenVars
import Derived.SevenTiedAt
namespace Go.Proofs.YbulkefaeFmt.lawS6569CWhole
open Go.ChangeShapes Go.WideShapes Go.ChangeAt Go.RowKit
open Go.Extern.Stop Go.Stop Go.Extern
set_option linter.unusedVariables false

theorem own : ownKnob Ybaf.prog.godebug = none := by kernel_rfl
theorem laidOut : laidOutB Ybaf.pinned.checked.prog = true := by kernel_rfl
theorem stops : Ybaf.pinned.checked.prog.stops = ["fmt.errorf"] := by kernel_rfl
theorem stopKnobs : Ybaf.pinned.checked.prog.stopKnobs = [] := by kernel_rfl
theorem quiet (os : Os) : Stop.quiet Ybaf.pinned.checked.prog os := by
  intro k hk
  rw [stopKnobs] at hk
  cases hk

/-- The specification. -/
def spec : OpenSpec := OpenSpec.ofChange Rows.lawS6569CWholeSpec

def cut : List UInt8 := [116, 104, 101, 32, 101, 110, 99, 111, 100, 105, 110, 103, 32, 105, 115, 32, 99, 117, 116, 32, 115, 104, 111, 114, 116]
def large : List UInt8 := [97, 32, 110, 117, 109, 98, 101, 114, 32, 100, 111, 101, 115, 32, 110, 111, 116, 32, 102, 105, 116, 32, 105, 110, 32, 54, 52, 32, 98, 105, 116, 115]

/-- THE WITNESS: the settled world with four blocks more, the three variables holding what their initialisers lay. -/
noncomputable def laidWorld (os : Os) : World :=
  let N := (World.settled Ybaf.prog os).heap.size
  let w0 := World.holding Ybaf.prog os ⟨#[.cells (Lib.whiteT.map fun (z : Nat) => Value.int .u16 (z : Int)).toArray 96, .cells #[.slice (some ⟨N, 0, none⟩) 7 7, .slice none 0 0, .int .i64 2] 93,
    .cells #[.string ⟨cut.toArray⟩] 89, .cells #[.string ⟨large.toArray⟩] 89], #[], []⟩
  let put (h : Array Obj) (g : Nat) (cs : Array Value) : Array Obj := h.modify g fun
    | .cells _ t frozen => .cells cs t frozen
    | o => o
  { w0 with heap := put (put (put w0.heap 1 #[.pointer (some ⟨N + 1, 0, none⟩)]) 0 #[.iface 87 (.pointer (some ⟨N + 2, 0, none⟩))]) 2 #[.iface 87 (.pointer (some ⟨N + 3, 0, none⟩))] }

theorem laid_met (os : Os) (args : Array Value) : laidMet Ybaf.prog Rows.lawS6569CWholeRow.laid ((laidWorld os).forCall (fun _ _ => 0) ⟨#[], args, []⟩).memory :=
  laidMet_of_run3 10 (by kernel_rfl) (by kernel_rfl) (by kernel_rfl)

abbrev wargs : Array Value := #[.slice none 0 0, .slice none 0 0, .slice none 0 0, .int .u8 0]

theorem witness_row (os : Os) {H : Type} (enc : TypeId × Value → H) :
    spec.preRow enc Ybaf.prog Ybaf.f3 Rows.lawS6569CWholeRow.domain false Rows.lawS6569CWholeRow.laid ((laidWorld os).forCall (fun _ _ => 0) ⟨#[], wargs, []⟩).memory wargs := by
  have hw : (DataW.whole enc Ybaf.prog ((laidWorld os).forCall (fun _ _ => 0) ⟨#[], wargs, []⟩).memory Ybaf.f3.params.toList spec.vars false wargs.toList 8).isSome = true := by kernel_rfl
  obtain ⟨x, hx⟩ := Option.isSome_iff_exists.1 hw
  exact OpenSpec.preRow_of_cond 8 hx rfl (fun k hk => by cases hk) (by kernel_rfl) (laid_met os _)

theorem star : "*" ++ "errors.errorString" = "*errors.errorString" := by decide
theorem row87 (u : TypeId) (h : Ybaf.prog.typeName? 3 u = some "*errors.errorString") : u = 87 :=
  typeName_ptr_named (nm := "errors.errorString") (by rw [star]; kernel_rfl) (by kernel_rfl) (by decide) u (by rw [star]; exact h)
theorem g0 : Ybaf.prog.globalNamed "example.com/causeway/causeway/internal/wire.ErrCutShort" = some 0 := by kernel_rfl
theorem g2 : Ybaf.prog.globalNamed "example.com/causeway/causeway/internal/wire.errTooLarge" = some 2 := by kernel_rfl

set_option maxRecDepth 100000 in
set_option maxHeartbeats 2000000 in
theorem lifted (os : Os) (started : os.Started) (H : Type) (enc : TypeId × Value → H) :
    ReturnsInTold none {} Ybaf.checked os 3 .any Input.okWide (spec.preRow enc Ybaf.prog Ybaf.f3 Rows.lawS6569CWholeRow.domain false Rows.lawS6569CWholeRow.laid) (fun F => (spec.at F).post enc Ybaf.prog Ybaf.f3 false true false false) (aloneAtReturn Ybaf.prog) nothingAlways := by
  refine returnsInTold_of_row (C := Ybaf.checked) (s := spec) (by kernel_rfl) own started (by kernel_rfl) Ybaf.func3
    (OpenSpec.witness_stopped_atRef (enc := enc) (C := Ybaf.checked) false (laidWorld os) wargs rfl (by kernel_rfl) (by kernel_rfl) (by kernel_rfl) (witness_row os enc)) ?_
  intro F W base args ds gs before _ hF hval0 hW hcnd0 _ hsz0 hL _
  have hsz : (DataW.weightsEach Ybaf.prog (Ybaf.f3.params.toList ++ spec.bare.plain.varTypes Ybaf.prog) (ds ++ gs)).all (· ≤ reachBytes) = true := hsz0
  clear hsz0 hcnd0
  have hval : ∀ (j : Nat) t v, Ybaf.f3.params[j]? = some t → args[j]? = some v → Value.okWide Ybaf.prog W .any base t v := hval0
  have hW' := hW
  obtain ⟨p, q, hA0, hV0, rfl, hfz, hnd⟩ := hW
  have hA : DataW.TrodAll enc Ybaf.prog W 0 (fun _ => true) true Ybaf.f3.params.toList args.toList ds p := hA0
  have hV : DataW.TrodVars enc Ybaf.prog W (fun _ => true) spec.vars gs q := hV0
  rw [Ybaf.params3] at hA hval hsz
  obtain ⟨v0, vs0, d0, ds0, p0, q0, hargs, rfl, rfl, h0, r0⟩ := trodAll_cons hA
  obtain ⟨v1, vs1, d1, ds1, p1, q1, rfl, rfl, rfl, h1, r1⟩ := trodAll_cons r0
  obtain ⟨v2, vs2, d2, ds2, p2, q2, rfl, rfl, rfl, h2, r2⟩ := trodAll_cons r1
  obtain ⟨v3, vs3, d3, ds3, p3, q3, rfl, rfl, rfl, h3, r3⟩ := trodAll_cons r2
  obtain ⟨rfl, rfl, rfl⟩ := trodAll_nil r3
  obtain rfl : args = #[v0, v1, v2, v3] := by cases args; simp_all
  obtain ⟨a0, len0, cap0, rfl⟩ := okWide_slice Ybaf.underlying22 (hval 0 22 v0 rfl rfl)
  obtain ⟨a1, len1, cap1, rfl⟩ := okWide_slice Ybaf.underlying23 (hval 1 23 v1 rfl rfl)
  obtain ⟨a2, len2, cap2, rfl⟩ := okWide_slice Ybaf.underlying22 (hval 2 22 v2 rfl rfl)
  obtain ⟨m, rfl, rfl, rfl, wm⟩ := open_int Ybaf.underlying5 (hval 3 5 v3 rfl rfl) h3
  have k0 := h0
  have k1 := h1
  have k2 := h2
  have lt0 : ∀ x ∈ p0, x.block < W.heap.size := by obtain ⟨m, hm⟩ := k0; exact DataW.trod_lt m _ _ _ hm
  have lt1 : ∀ x ∈ p1, x.block < W.heap.size := by obtain ⟨m, hm⟩ := k1; exact DataW.trod_lt m _ _ _ hm
  have lt2 : ∀ x ∈ p2, x.block < W.heap.size := by obtain ⟨m, hm⟩ := k2; exact DataW.trod_lt m _ _ _ hm
  have hw0 : ∀ x ∈ d0.weights Ybaf.prog 22, x ≤ reachBytes := fun x hx => by
    have := List.all_eq_true.1 hsz _ (DataW.weights_mem_each (j := 0) (t := 22) (d := d0) rfl rfl x hx)
    simpa using this
  have hw1 : ∀ x ∈ d1.weights Ybaf.prog 23, x ≤ reachBytes := fun x hx => by
    have := List.all_eq_true.1 hsz _ (DataW.weights_mem_each (j := 1) (t := 23) (d := d1) rfl rfl x hx)
    simpa using this
  have hw2 : ∀ x ∈ d2.weights Ybaf.prog 22, x ≤ reachBytes := fun x hx => by
    have := List.all_eq_true.1 hsz _ (DataW.weights_mem_each (j := 2) (t := 22) (d := d2) rfl rfl x hx)
    simpa using this
  obtain ⟨l0, rfl, b0, hl0⟩ := bytes_given h0 hw0
  obtain ⟨ss, rfl, b1⟩ := strs_given h1 hw1
  obtain ⟨l2, rfl, b2, hl2⟩ := bytes_given h2 hw2
  have hm := wf_u8 wm
  have hL' : laidMet Ybaf.prog Rows.lawS6569CWholeRow.laid W := hL
  obtain ⟨e1, e2, s1, s2, c1, c2, t1, t2, hv1, hv2, hc1, hs1, _, hc2, hs2, _, hne, hb1, hb2⟩ := laid_sentinels2 (g0 := 0) (g1 := 2) hL'.tail g0 (by kernel_rfl) g2 (by kernel_rfl) Ybaf.underlying37 row87 Ybaf.underlying87 Ybaf.underlying89 rfl rfl Ybaf.underlying9 (by kernel_rfl) (by kernel_rfl)
  have hT : Lib.WhiteTab 1 W := whiteTab_of_reads (ρ := Ybaf.lays199_ren) { Ybaf.lays199 with } ⟨by kernel_rfl, by kernel_rfl, by kernel_rfl, by kernel_rfl, by kernel_rfl, by kernel_rfl, by kernel_rfl, by kernel_rfl⟩ (Lib.laidMet.reads hL' (.head _))
  have hS : Sent W e1 e2 := ⟨by simpa using World.var?_cell g0 hv1 0, by simpa using World.var?_cell g2 hv2 0⟩
  clear hA0 hV0 hval0
  refine (law_any F.told W e1 e2 a0 l0 cap0 a1 ss cap1 a2 l2 cap2 m hF hT hS (Ne.symm hne) ⟨c1, t1, hb1⟩ ⟨c2, t2, hb2⟩ b0 b1 b2 hl0 hl2 hm.1 hm.2).mono fun e W' ⟨he, bel⟩ => ?_
  subst he
  have hvs : ∃ x y, gs = [x, y] := by
    obtain ⟨_, _, _, _, _, _, _, _, _, _, _, _, rfl, _⟩ := trodVars_two hV
    exact ⟨_, _, rfl⟩
  obtain ⟨x, y, rfl⟩ := hvs
  refine ⟨_, rfl, _, _, _, [], _, q, hW', trodAll_mk1 (shut_bool Ybaf.underlying4 _), (trodAll_cons_mk (Below.trod laidOut (by kernel_rfl) (of_decide_eq_true (by kernel_rfl)) k0 bel lt0) (trodAll_cons_mk (Below.trod laidOut (by kernel_rfl) (of_decide_eq_true (by kernel_rfl)) k1 bel lt1) (trodAll_cons_mk (Below.trod laidOut (by kernel_rfl) (of_decide_eq_true (by kernel_rfl)) k2 bel lt2) (trodAll_cons_mk (shut_int Ybaf.underlying5 wm) trodAll_mk0)))), ?_, bel.frame _, fun h => by cases h⟩
  exact Below.trodVars laidOut bel (by kernel_rfl) hV

theorem proved : Rows.LawS6569CWholeToldSaid :=
  Claim7.holds_of_told_tied_any_at .later 3 Ybaf.f3 "fmt.errorf" [] [] _ _ _ _ _ (by kernel_rfl) rfl rfl rfl laidOut (by kernel_rfl) rfl ⟨rfl, rfl, rfl, rfl, rfl, rfl, rfl⟩ rfl rfl (by kernel_rfl) (by kernel_rfl) Ybaf.func3 (by kernel_rfl)
    (of_decide_eq_true (by kernel_rfl)) (by unfold Func.isWrapper; first | (rw [if_pos (by decide +kernel)]; kernel_rfl) | (rw [if_neg (by decide +kernel)]; exact ⟨rfl, rfl⟩)) stops.symm rfl stopKnobs.symm (by kernel_rfl)
    (by kernel_rfl) (by kernel_rfl) (by kernel_rfl) (by kernel_rfl) (by kernel_rfl) (by kernel_rfl) (by kernel_rfl) (by kernel_rfl) (by kernel_rfl) rfl (by kernel_rfl) rfl rfl
    rfl rfl
    rfl (by kernel_rfl) (by kernel_rfl) (by kernel_rfl) (by decide) (by kernel_rfl) lawS6569CWhole_row_tie
    (OpenClaim.moreEntering_of (by kernel_rfl) (by kernel_rfl) (by kernel_rfl) (by kernel_rfl) (by kernel_rfl) (by kernel_rfl) (by kernel_rfl) (by kernel_rfl) (by kernel_rfl) (by kernel_rfl))
    ⟨_, WideRow.started_initial, quiet _⟩
    (fun os started _ H enc _ => lifted os started H enc)

#print axioms proved
end Go.Proofs.YbulkefaeFmt.lawS6569CWhole
