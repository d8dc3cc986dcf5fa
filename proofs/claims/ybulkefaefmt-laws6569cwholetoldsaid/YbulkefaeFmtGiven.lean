/- LawS6569CWhole: the arguments, out of their reading; the three modes joined. -/
import Derived.Test.YbulkefaeFmtF15
import Derived.ProofKit
import Derived.OpenShut
import Derived.SizedLaws
import Derived.SliceStrings
namespace Go.Proofs.YbulkefaeFmt
open Go.ChangeShapes Go.WideShapes Go.ChangeAt Go.RowKit
open Go.Stop
set_option linter.unusedVariables false

theorem law_any (F : Interp) (w : World) (a1 a2 : Addr) (p1 : Option Addr) (l1 : List UInt8) (c1 : Nat) (p2 : Option Addr) (ss : List ByteArray) (c2 : Nat) (p3 : Option Addr) (l3 : List UInt8) (c3 : Nat) (m : Int)
    (hF : F.answers w.tape) (hT : Lib.WhiteTab 1 w) (hS : Sent w a1 a2) (ha : a2 ≠ a1) (hp1 : PlainAt w a1.block) (hp2 : PlainAt w a2.block) (h1 : BArg w p1 l1 c1) (h2 : SArg w p2 ss) (h3 : BArg w p3 l3 c3) (hl1 : l1.length ≤ 140737488355328) (hl3 : l3.length ≤ 140737488355328)
    (hm0 : 0 ≤ m) (hm1 : m ≤ 255) :
    Calls Ybaf.prog 3 #[.slice p1 l1.length c1, .slice p2 ss.length c2, .slice p3 l3.length c3, .int .u8 m] w fun e w' => e = .returned (.bool true) ∧ Below w.heap.size w w' := by
  rcases (by omega : m % 3 = 0 ∨ m % 3 = 1 ∨ m % 3 = 2) with hm | hm | hm
  · exact law_0 F w a1 a2 p1 l1 c1 p2 ss c2 p3 l3 c3 m hF hT hS ha hp1 hp2 h1 h2 h3 hl1 hl3 hm0 hm1 hm
  · exact law_1 F w a1 a2 p1 l1 c1 p2 ss c2 p3 l3 c3 m hF hT hS ha hp1 hp2 h1 h2 h3 hl1 hl3 hm0 hm1 hm
  · exact law_2 F w a1 a2 p1 l1 c1 p2 ss c2 p3 l3 c3 m hF hT hS ha hp1 hp2 h1 h2 h3 hl1 hl3 hm0 hm1 hm

theorem cells5 : Ybaf.prog.cellsOf 5 = 1 := by kernel_rfl
theorem cells9 : Ybaf.prog.cellsOf 9 = 1 := by kernel_rfl
theorem bytes5 : Ybaf.prog.bytesOf 5 = 1 := by kernel_rfl
theorem bytes9 : Ybaf.prog.bytesOf 9 = 16 := by kernel_rfl

theorem wf_u8 {z : Int} (h : (Lit.int .u8 z).wf = true) : 0 ≤ z ∧ z ≤ 255 := by
  have e1 : IntKind.u8.min = 0 := rfl
  have e2 : IntKind.u8.max = 255 := rfl
  simp [Lit.wf, e1, e2] at h
  exact h

theorem mem_weightsAll {H : Type} {P : Program} {e : TypeId} {d : DataW H} : ∀ {ds : List (DataW H)}, d ∈ ds → ∀ x ∈ d.weights P e, x ∈ DataW.weightsAll P e ds
  | d0 :: ds, hd, x, hx => by
    simp only [DataW.weightsAll, List.mem_append]
    rcases List.mem_cons.1 hd with rfl | hd
    · exact Or.inl hx
    · exact Or.inr (mem_weightsAll hd x hx)

/-- A slice of bytes, out of its reading and of the form's reach. -/
theorem bytes_given {H : Type} {enc : TypeId × Value → H} {W : World} {a : Option Addr} {n c : Nat} {d : DataW H} {p : List MemPlace}
    (h : DataW.Trod enc Ybaf.prog W 0 (fun _ => true) true 22 (.slice a n c) d p) (hw : ∀ x ∈ d.weights Ybaf.prog 22, x ≤ reachBytes) : ∃ l : List UInt8, n = l.length ∧ BArg W a l c ∧ l.length ≤ 140737488355328 := by
  obtain ⟨fuel, hf⟩ := h
  rcases open_ints Ybaf.underlying22 Ybaf.underlying5 cells5 hf with ⟨hcs, _⟩ | ⟨x, l, cc, zs, hcs, _, hl, hm, hz, hd, hcell, hwz⟩
  · simp [Value.cells] at hcs
    obtain ⟨rfl, rfl, rfl⟩ := hcs
    exact ⟨[], rfl, ⟨fun h => absurd h (Nat.lt_irrefl 0), Nat.le_refl _, by omega, fun _ => rfl, fun _ => rfl⟩, by simp⟩
  · simp [Value.cells] at hcs hz
    obtain ⟨rfl, rfl, rfl⟩ := hcs
    simp only [Prod.mk.injEq] at hd
    have hlen : (zs.take n).length = n := by simp; omega
    have hcc := hw ((n + (zs.length - n)) * 1) (by
      rw [hd.1]
      simp only [DataW.weights, Ybaf.underlying22, bytes5, lits, List.length_map, List.length_take, List.length_drop, List.mem_cons]
      left
      omega)
    simp only [reachBytes] at hcc
    refine ⟨(zs.take n).map fun z => UInt8.ofNat z.toNat, by simp; omega, ⟨fun h0 => ?_, by simp; omega, by omega, by simp, by simp⟩, by simp; omega⟩
    obtain ⟨b, o, sp⟩ := x
    have h0' : 0 < n := by simp at h0; omega
    obtain rfl : sp = none := by simpa [Addr.add] using World.cell?_spot (hcell 0 (by omega))
    refine ⟨b, o, rfl, fun j hj => ?_⟩
    have hj' : j < n := by simp at hj; omega
    have hc := hcell j (by omega)
    rw [add_plain] at hc
    rw [hc]
    have hjz : j < zs.length := by omega
    have e1 : zs.getD j 0 = zs[j] := by simp [List.getD, hjz]
    have hb := wf_u8 (hwz zs[j] (List.getElem_mem _))
    have e2 : ((UInt8.ofNat zs[j].toNat).toNat : Int) = zs[j] := by
      have : zs[j].toNat < 256 := by omega
      simp [Nat.mod_eq_of_lt this]
      omega
    rw [e1]
    simp only [List.getElem_map, List.getElem_take]
    rw [e2]

/-- A slice of strings. -/
theorem strs_given {H : Type} {enc : TypeId × Value → H} {W : World} {a : Option Addr} {n c : Nat} {d : DataW H} {p : List MemPlace}
    (h : DataW.Trod enc Ybaf.prog W 0 (fun _ => true) true 23 (.slice a n c) d p) (hw : ∀ x ∈ d.weights Ybaf.prog 23, x ≤ reachBytes) : ∃ ss : List ByteArray, n = ss.length ∧ SArg W a ss := by
  obtain ⟨fuel, hf⟩ := h
  rcases open_strings Ybaf.underlying23 Ybaf.underlying9 cells9 hf with ⟨hv, _⟩ | ⟨y, l', c', ss, hv, _, hl', hm', hsl, hd', hcell, hsz⟩
  · simp [Value.cells] at hv
    obtain ⟨rfl, rfl, rfl⟩ := hv
    exact ⟨[], rfl, ⟨fun h => absurd h (Nat.lt_irrefl 0), fun _ => rfl, fun k hk => absurd hk (Nat.not_lt_zero k), by simp⟩⟩
  · simp [Value.cells] at hv hsl
    obtain ⟨rfl, rfl, rfl⟩ := hv
    simp only [Prod.mk.injEq] at hd'
    have hlen : (ss.take n).length = n := by simp; omega
    have hcc := hw ((n + (ss.length - n)) * 16) (by
      rw [hd'.1]
      simp only [DataW.weights, Ybaf.underlying23, bytes9, strs, List.length_map, List.length_take, List.length_drop, List.mem_cons]
      left
      omega)
    simp only [reachBytes] at hcc
    refine ⟨ss.take n, hlen.symm, ⟨fun h0 => ?_, by simp, fun k hk => ?_, by omega⟩⟩
    · obtain ⟨b, o, sp⟩ := y
      have h0' : 0 < n := by rw [hlen] at h0; exact h0
      obtain rfl : sp = none := by simpa [Addr.add] using World.cell?_spot (hcell 0 (by omega))
      refine ⟨b, o, rfl, fun j hj => ?_⟩
      rw [hlen] at hj
      have := hcell j (by omega)
      rw [add_plain] at this
      rw [this]
      simp [List.getD, hj]
    · have hk' : k < n := by rw [hlen] at hk; exact hk
      have hx := hw ((ss.take n)[k].data.toList.length) (by
        rw [hd'.1]
        simp only [DataW.weights, Ybaf.underlying23, strs, List.mem_cons, List.mem_append]
        refine Or.inr (Or.inl (mem_weightsAll (List.mem_map.2 ⟨(ss.take n)[k], List.getElem_mem _, rfl⟩) _ ?_))
        simp [DataW.weights])
      simp only [reachBytes] at hx
      rw [Array.length_toList] at hx
      have e : ((ss.take n).getD k ByteArray.empty) = (ss.take n)[k] := by simp [List.getD, hk', show k < ss.length by omega]
      rw [e]
      exact Nat.le_trans hx (by omega)
end Go.Proofs.YbulkefaeFmt
