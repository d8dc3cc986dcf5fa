/- LawS6572BPart: the law's own walk. -/
import Derived.Test.YbulkefbuB3
import Derived.Deep.Slices
namespace Go.Proofs.Ybulkefbu.B
open Go.RowKit
set_option linter.unusedVariables false

/-- The rows as they came in, within the form's reach. -/
structure Given (w : World) (a : Option Addr) (n c : Nat) (N : Nat → Bool) (R : Nat → List ByteArray) : Prop where
  rows : Rows2 w a n N R
  nil : a = none → n = 0
  bound : n ≤ 5864062014805
  each : ∀ i, i < n → (R i).length ≤ 8796093022207
  empty : ∀ i, i < n → N i = true → (R i).length = 0
  sizes : ∀ i, i < n → ∀ s ∈ R i, s.size ≤ maxLen

theorem Rows2.drewN {w : World} {p : Option Addr} {n : Nat} {N : Nat → Bool} {R : Nat → List ByteArray} (h : Rows2 w p n N R) (k : Nat) : Rows2 (w.drewN k) p n N R := h

theorem copy_any {w0 w : World} {a : Option Addr} {n c : Nat} {N : Nat → Bool} {R : Nat → List ByteArray} (h : Given w0 a n c N R) (hb : Below w0.heap.size w0 w) :
    Calls Yba.prog 8 #[.slice a n c] w fun e w' => ∃ p c', e = .returned (.slice p n c') ∧ p.isNone = a.isNone ∧ Rows2 w' p n N R ∧ Below w.heap.size w w' := by
  cases a with
  | none =>
    obtain rfl := h.nil rfl
    refine (copy_nil c w).mono ?_
    rintro e w' ⟨rfl, rfl⟩
    exact ⟨none, 0, rfl, rfl, fun h => absurd h (Nat.lt_irrefl 0), Below.refl _ _⟩
  | some x =>
    refine (copy_some x n N R c w (h.rows.keep hb) h.bound h.each h.empty).mono ?_
    rintro e w' ⟨rfl, h1, h2⟩
    exact ⟨_, _, rfl, rfl, h1, h2⟩

/-- What is known behind parseRows. -/
structure After (w w3 : World) (path : ByteArray) (a p p2 : Option Addr) (n cp bt bl hg : Nat) (N : Nat → Bool) (R : Nat → List ByteArray) (v : Value) : Prop where
  rows : Rows2 w3 a n N R
  own : Rows2 w3 p n N R
  keep : Rows2 w3 p2 n N R
  t0 : w3.cell? ⟨bt, 0, none⟩ = some (.pointer none)
  t1 : w3.cell? ⟨bt, 1, none⟩ = some (.string path)
  t2 : w3.cell? ⟨bt, 2, none⟩ = some (.slice p n cp)
  got : ∀ i, i < n → w3.cell? ⟨hg, i, none⟩ = some (.int .i64 (val (R i)))
  log : w3.cell? ⟨bl, 0, none⟩ = some v
  form : ∃ q cap, v = .slice q n cap ∧ Rows2 w3 q n N R
  below : Below w.heap.size w w3

/-- parseRows, called by the law. -/
theorem parse_law {w w1 w2 : World} {path : ByteArray} {a p p2 : Option Addr} {n c cp : Nat} {N : Nat → Bool} {R : Nat → List ByteArray} (h : Given w a n c N R) (h1 : Below w.heap.size w w1) (ho : Rows2 w1 p n N R) (h2 : Below w1.heap.size w1 w2) (hk : Rows2 w2 p2 n N R) :
    Calls Yba.prog 9 #[.pointer (some ⟨w2.heap.size, 0, none⟩), .func (.func 10) #[] #[.pointer (some ⟨w2.heap.size + 1, 0, none⟩)]]
      ((w2.alloc (.cells #[.pointer none, .string path, .slice p n cp, .slice none 0 0, .slice none 0 0, .slice none 0 0] 32)).alloc (.cells #[.slice none 0 0] 25))
      fun e w3 => e = .returned (.tuple #[.slice (some ⟨w2.heap.size + 1 + 1, 0, none⟩) n n, .nilIface]) ∧ ∃ v, After w w3 path a p p2 n cp w2.heap.size (w2.heap.size + 1) (w2.heap.size + 1 + 1) N R v := by
  have hb2 : Below w2.heap.size w2 ((w2.alloc (.cells #[.pointer none, .string path, .slice p n cp, .slice none 0 0, .slice none 0 0, .slice none 0 0] 32)).alloc (.cells #[.slice none 0 0] 25)) :=
    ((Below.refl _ _).alloc (Nat.le_refl _) _).alloc (by simp) _
  have ho2 := ho.keep h2
  have hcell2 : ((w2.alloc (.cells #[.pointer none, .string path, .slice p n cp, .slice none 0 0, .slice none 0 0, .slice none 0 0] 32)).alloc (.cells #[.slice none 0 0] 25)).cell? ⟨w2.heap.size, 2, none⟩ = some (.slice p n cp) := by simp [go_sem]
  have hcell1 : ((w2.alloc (.cells #[.pointer none, .string path, .slice p n cp, .slice none 0 0, .slice none 0 0, .slice none 0 0] 32)).alloc (.cells #[.slice none 0 0] 25)).cell? ⟨w2.heap.size, 1, none⟩ = some (.string path) := by simp [go_sem]
  have hcell0 : ((w2.alloc (.cells #[.pointer none, .string path, .slice p n cp, .slice none 0 0, .slice none 0 0, .slice none 0 0] 32)).alloc (.cells #[.slice none 0 0] 25)).cell? ⟨w2.heap.size, 0, none⟩ = some (.pointer none) := by simp [go_sem]
  have hbox : Box ((w2.alloc (.cells #[.pointer none, .string path, .slice p n cp, .slice none 0 0, .slice none 0 0, .slice none 0 0] 32)).alloc (.cells #[.slice none 0 0] 25)) (w2.heap.size + 1) 25 (.slice none 0 0) := by
    have := heap_alloc_new (w2.alloc (.cells #[.pointer none, .string path, .slice p n cp, .slice none 0 0, .slice none 0 0, .slice none 0 0] 32)) (.cells #[.slice none 0 0] 25)
    rw [World.size_alloc] at this
    exact this
  have hsz : ((w2.alloc (.cells #[.pointer none, .string path, .slice p n cp, .slice none 0 0, .slice none 0 0, .slice none 0 0] 32)).alloc (.cells #[.slice none 0 0] 25)).heap.size = w2.heap.size + 1 + 1 := by simp
  generalize ((w2.alloc (.cells #[.pointer none, .string path, .slice p n cp, .slice none 0 0, .slice none 0 0, .slice none 0 0] 32)).alloc (.cells #[.slice none 0 0] 25)) = W at *
  -- the rows of the table, as they stand in memory
  obtain ⟨b, o, Q, C, hp, hbb, hrow⟩ : ∃ (b o : Nat) (Q : Nat → Option Addr) (C : Nat → Nat), (0 < n → p = some ⟨b, o, none⟩) ∧ b < w2.heap.size + 1 ∧
      ∀ i, i < n → W.cell? ⟨b, o + i, none⟩ = some (.slice (Q i) (R i).length (C i)) ∧ (Q i).isNone = N i ∧ Row W (Q i) (R i) ∧ (0 < (R i).length → ∀ b' o', Q i = some ⟨b', o', none⟩ → b' < w2.heap.size + 1) := by
    by_cases h0 : 0 < n
    · obtain ⟨b, o, e, hc⟩ := ho2 h0
      have each : ∀ i, i < n → ∃ x : Option Addr × Nat, w2.cell? ⟨b, o + i, none⟩ = some (.slice x.1 (R i).length x.2) ∧ x.1.isNone = N i ∧ Row w2 x.1 (R i) := fun i hi => by
        obtain ⟨q, c', g1, g2, g3⟩ := hc i hi
        exact ⟨(q, c'), g1, g2, g3⟩
      obtain ⟨f, hf⟩ := Go.Deep.choose_lt each
      refine ⟨b, o, fun i => (f i).1, fun i => (f i).2, fun _ => e, ?_, fun i hi => ?_⟩
      · have := World.block_lt_of_cell? w2 _ (hf 0 h0).1
        simp only at this; omega
      · obtain ⟨g1, g2, g3⟩ := hf i hi
        refine ⟨cell_keep hb2 g1, g2, g3.keep hb2, fun hl b' o' e' => ?_⟩
        obtain ⟨b3, o3, e3, hc3⟩ := g3 hl
        have e2 : (f i).1 = some ⟨b', o', none⟩ := e'
        have : b' = b3 := by rw [e3] at e2; simp at e2; exact e2.1.symm
        have hlt := World.block_lt_of_cell? w2 _ (hc3 0 hl)
        simp only at hlt; omega
    · exact ⟨0, 0, fun _ => none, fun _ => 0, fun hh => absurd hh h0, by omega, fun i hi => absurd hi (by omega)⟩
  refine (parseRows_any w2.heap.size (w2.heap.size + 1) p n cp b o Q C R W hcell2 (by omega) hp hbb (fun i hi => ⟨(hrow i hi).1, (hrow i hi).2.2.1, (hrow i hi).2.2.2⟩) hbox h.bound (fun i hi => by have := h.each i hi; omega) h.sizes).mono ?_
  rintro e w3 ⟨rfl, v, hP⟩
  rw [hsz]
  have hbb3 : Below w2.heap.size w2 w3 := hb2.trans (hP.below.mono (by omega))
  have bcell : ∀ {q : Addr} {u : Value}, W.cell? q = some u → q.block < w2.heap.size + 1 → w3.cell? q = some u := fun hc hl => by rw [hP.below.cell hl]; exact hc
  refine ⟨rfl, v, ?_⟩
  obtain ⟨cur, g1, g2, g3⟩ := hP.ints
  rw [hsz] at g1
  exact {
    rows := (h.rows.keep h1).keep h2 |>.keep hbb3
    own := ho2.keep hbb3
    keep := hk.keep hbb3
    t0 := bcell hcell0 (by simp)
    t1 := bcell hcell1 (by simp)
    t2 := bcell hcell2 (by simp)
    got := fun i hi => by
      unfold World.cell?
      simp only [g1]
      simpa using g3 i hi
    log := hP.log.box.cell
    form := by
      have hown := hP.log.own
      simp only [List.length_map, List.length_range] at hown
      rcases hown.2 with ⟨hv, h0⟩ | ⟨g, cap, cur', hv, hgS, hh, hnc, hcm, hcs, htake⟩
      · subst h0
        exact ⟨none, 0, hv, fun hh => absurd hh (Nat.lt_irrefl 0)⟩
      · refine ⟨some ⟨g, 0, none⟩, cap, hv, fun h0 => ⟨g, 0, rfl, fun i hi => ?_⟩⟩
        subst hv
        refine ⟨Q i, C i, ?_, (hrow i hi).2.1, fun hl => ?_⟩
        · have := hown.cellAt i (by omega)
          rw [Nat.zero_add, this]
          simp [hi]
        · obtain ⟨b', o', e', hc'⟩ := (hrow i hi).2.2.1 hl
          exact ⟨b', o', e', fun j hj => bcell (hc' j hj) ((hrow i hi).2.2.2 hl b' o' e')⟩
    below := h1.trans (h2.mono h1.size) |>.trans (hbb3.mono (by have := h1.size; have := h2.size; omega)) }

set_option maxRecDepth 100000 in
set_option maxHeartbeats 4000000 in
theorem law_walk (path : ByteArray) (a : Option Addr) (n c : Nat) (N : Nat → Bool) (R : Nat → List ByteArray) (w : World) (h : Given w a n c N R) :
    Calls Yba.prog 4 #[.string path, .slice a n c] w fun e w' => e = .returned (.bool true) ∧ Below w.heap.size w w' := by
  have e1 := eqnil33
  have hn := h.bound
  have H := Hid.mk h
  clear h
  go_enter Yba.func4, Yba.ntmps4
  go_wp2
  go_loop [5, 22] (fun t i => ∃ (k : Nat) (T : Int), k ≤ n ∧ i = .int .i64 k ∧ t = .int .i64 T) (fun _ i => n - (intOf i).toNat)
  case atStart => exact ⟨0, _, Nat.zero_le _, rfl, rfl⟩
  case round =>
    obtain ⟨k, T, hk, rfl, rfl⟩ := hrel
    by_cases hlt : k < n
    · obtain ⟨b, o, rfl, hc⟩ := H.out.rows (by omega)
      obtain ⟨q, cc, c1, n1, r1⟩ := hc k hlt
      have hkI : (k : Int) < (n : Int) := by omega
      have hlen := H.out.each k hlt
      have HR := Hid.mk r1
      clear hc n1 r1
      generalize R k = ss at *
      go_wp2
      go_loop [5, 32] (fun t i => ∃ (j : Nat) (T : Int), j ≤ ss.length ∧ i = .int .i64 j ∧ t = .int .i64 T) (fun _ i => ss.length - (intOf i).toNat)
      case atStart => exact ⟨0, _, Nat.zero_le _, rfl, rfl⟩
      case round =>
        obtain ⟨j, T', hj, rfl, rfl⟩ := hrel
        by_cases hjl : j < ss.length
        · obtain ⟨b', o', rfl, hc'⟩ := HR.out (by omega)
          have c2 := hc' j hjl
          have hjI : (j : Int) < (ss.length : Int) := by omega
          clear hc'
          go_wp2
          go_round
          case rel => exact ⟨j + 1, _, by omega, by go_num, rfl⟩
          case measure => simp [intOf]; omega
        · go_wp2
          go_round
          case rel => exact ⟨k + 1, _, by omega, by go_num, rfl⟩
          case measure => simp [intOf]; omega
    · by_cases hT : 1048576 < T
      · go_wp2
        go_ret
        exact ⟨rfl, Below.refl _ _⟩
      · go_wp2_with fail
        refine (copy_any H.out (Below.refl _ _)).mono ?_
        rintro e w1 ⟨p, cp, rfl, hp, ho, hb1⟩
        have HO := Hid.mk ho
        have HB1 := Hid.mk hb1
        have HPN := Hid.mk hp
        clear ho hb1 hp
        go_wp2_with fail
        refine (copy_any H.out HB1.out).mono ?_
        rintro e w2 ⟨p2, cp2, rfl, hp2, ho2, hb2⟩
        have HO2 := Hid.mk ho2
        have HB2 := Hid.mk hb2
        have HPN2 := Hid.mk hp2
        clear ho2 hb2 hp2
        go_wp2_with fail
        refine (parse_law H.out HB1.out HO.out HB2.out HO2.out).mono ?_
        rintro e w3 ⟨rfl, v, hA⟩
        obtain ⟨ql, capl, hv, hlog⟩ := hA.form
        subst hv
        have l1 := hA.log
        have HA := Hid.mk hA
        have HLOG := Hid.mk hlog
        clear hA hlog HO HO2 HB1 HB2
        go_wp2
        go_loopw [73] (fun i wr => ∃ k : Nat, k ≤ n ∧ i = .int .i64 k ∧ ∃ m, wr = w3.drewN m) (fun i _ => n - (intOf i).toNat)
        case atStart => exact ⟨0, Nat.zero_le _, rfl, 0, rfl⟩
        case round =>
          obtain ⟨k3, hk3, rfl, hw3⟩ := hrel
          have HW := Hid.mk hw3
          clear hw3 l1
          by_cases hlt3 : k3 < n
          · obtain ⟨b, o, rfl, hc⟩ := HA.out.keep (by omega)
            obtain ⟨q, cc, c1', n1, r1⟩ := hc k3 hlt3
            obtain ⟨m, hm⟩ := HW.out
            have c1 : wr.cell? ⟨b, o + k3, none⟩ = some (.slice q (R k3).length cc) := by rw [hm]; exact c1'
            have c2 : wr.cell? ⟨w2.heap.size + 1 + 1, k3, none⟩ = some (.int .i64 (val (R k3))) := by rw [hm]; exact HA.out.got k3 hlt3
            have r1' : Row wr q (R k3) := by rw [hm]; exact r1
            have hkI : (k3 : Int) < (n : Int) := by omega
            have hlen : (R k3).length ≤ 140737488355328 := by have := H.out.each k3 hlt3; omega
            have HSS := Hid.mk (H.out.sizes k3 hlt3)
            have HC := Hid.mk r1'
            clear hc n1 r1 r1' c1' hm
            generalize R k3 = ss at *
            go_wp2
            go_quiet ((go_at_call 11; exact Calls.quiet_of_same (val_any q ss cc _ (HC.out.drewN _) hlen HSS.out)))
            go_wp2
            go_roundw
            case rel => obtain ⟨m, hm⟩ := HW.out; exact ⟨k3 + 1, by omega, by go_num, _, by rw [hm, World.drewN_drewN]⟩
            case measure => simp [intOf]; omega
          · have l2 : wr.cell? ⟨w2.heap.size + 1, 0, none⟩ = some (.slice ql n capl) := by obtain ⟨m, hm⟩ := HW.out; rw [hm]; exact HA.out.log
            go_wp2
            clear l2
            go_loopw [94] (fun i wr => ∃ k : Nat, k ≤ n ∧ i = .int .i64 k ∧ ∃ m, wr = w3.drewN m) (fun i _ => n - (intOf i).toNat)
            case atStart => exact ⟨0, Nat.zero_le _, rfl, HW.out⟩
            case round =>
              obtain ⟨k4, hk4, rfl, hw4⟩ := hrel
              have HW4 := Hid.mk hw4
              clear hw4
              by_cases hlt4 : k4 < n
              · obtain ⟨b, o, rfl, hc⟩ := HA.out.keep (by omega)
                obtain ⟨q, cc, c1', n1, r1⟩ := hc k4 hlt4
                obtain ⟨b', o', rfl, hc'⟩ := HLOG.out (by omega)
                obtain ⟨q', cc', c2', n2, r2⟩ := hc' k4 hlt4
                obtain ⟨m, hm⟩ := HW4.out
                have c1 : wr.cell? ⟨b, o + k4, none⟩ = some (.slice q (R k4).length cc) := by rw [hm]; exact c1'
                have c2 : wr.cell? ⟨b', o' + k4, none⟩ = some (.slice q' (R k4).length cc') := by rw [hm]; exact c2'
                have l2 : wr.cell? ⟨w2.heap.size + 1, 0, none⟩ = some (.slice (some ⟨b', o', none⟩) n capl) := by rw [hm]; exact HA.out.log
                have r1' : Row wr q (R k4) := by rw [hm]; exact r1
                have r2' : Row wr q' (R k4) := by rw [hm]; exact r2
                have hkI : (k4 : Int) < (n : Int) := by omega
                have hlen : (R k4).length ≤ 140737488355328 := by have := H.out.each k4 hlt4; omega
                have HNN : Hid (q'.isNone = q.isNone) := by unfold Hid; rw [n1, n2]
                have HC := Hid.mk r1'
                have HC' := Hid.mk r2'
                clear hc hc' n1 n2 r1 r2 r1' r2' c1' c2' hm
                generalize R k4 = ss at *
                go_wp2
                go_quiet ((go_at_call 12; exact Calls.quiet_of (eqrow_any q' q ss cc' cc _ (HC'.out.drewN _) (HC.out.drewN _) HNN.out hlen)))
                go_wp2
                go_roundw
                case rel => obtain ⟨m, hm⟩ := HW4.out; exact ⟨k4 + 1, by omega, by go_num, _, by rw [hm, World.drewN_drewN]⟩
                case measure => simp [intOf]; omega
              · obtain ⟨m, hm⟩ := HW4.out
                have t0 : wr.cell? ⟨w2.heap.size, 0, none⟩ = some (.pointer none) := by rw [hm]; exact HA.out.t0
                have t1 : wr.cell? ⟨w2.heap.size, 1, none⟩ = some (.string path) := by rw [hm]; exact HA.out.t1
                have t2 : wr.cell? ⟨w2.heap.size, 2, none⟩ = some (.slice p n cp) := by rw [hm]; exact HA.out.t2
                have HR1 : Hid (Rows2 wr a n N R) := by unfold Hid; rw [hm]; exact HA.out.rows
                have HR2 : Hid (Rows2 wr p n N R) := by unfold Hid; rw [hm]; exact HA.out.own
                have HR3 : Hid (Rows2 wr p2 n N R) := by unfold Hid; rw [hm]; exact HA.out.keep
                have HBB : Hid (Below w.heap.size w wr) := by unfold Hid; rw [hm]; exact ⟨HA.out.below.os, HA.out.below.tape, HA.out.below.output, HA.out.below.size, HA.out.below.block⟩
                have hn' : n ≤ 140737488355328 := by omega
                have HLN : Hid (∀ i, i < n → (R i).length ≤ 140737488355328) := fun i hi => by have := H.out.each i hi; omega
                have HP1 : Hid (p.isNone = p2.isNone) := by unfold Hid; rw [HPN.out, HPN2.out]
                have HP2 : Hid (a.isNone = p2.isNone) := by unfold Hid; rw [HPN2.out]
                clear hm
                go_wp2_with fail
                refine (eq_any p p2 n N R cp cp2 _ HR2.out HR3.out HP1.out hn' HLN.out).mono ?_
                rintro e w5 ⟨rfl, m5, rfl⟩
                go_wp2_with fail
                refine (eq_any a p2 n N R c cp2 _ (HR1.out.drewN _) (HR3.out.drewN _) HP2.out hn' HLN.out).mono ?_
                rintro e w6 ⟨rfl, m6, rfl⟩
                go_wp2
                go_ret
                exact ⟨rfl, HBB.out.os, HBB.out.tape, HBB.out.output, HBB.out.size, HBB.out.block⟩
end Go.Proofs.Ybulkefbu.B
