/- LawS6572AWhole: the list in words, plainly; the model reckons it. -/
import Derived.Test.YbulkefbuB2
import Derived.Lib.AppendStr
import Derived.Lib.UnsafeStr
import Derived.OwnWalk
import Derived.Laws.IdiomStrings
import Derived.Lib.Join
namespace Go.Proofs.Ybulkefbu.A
open Go.RowKit
open B (Row cell_keep)
set_option linter.unusedVariables false

theorem Hid.mk {p : Prop} (h : p) : Hid p := h
def comma : List UInt8 := [44, 32]
def and5 : List UInt8 := [32, 97, 110, 100, 32]

/-- The list in words, item by item. -/
def modelTo (xs : List (List UInt8)) : Nat → List UInt8
  | 0 => []
  | k + 1 => modelTo xs k ++ (if k = 0 then [] else if k = xs.length - 1 then and5 else comma) ++ xs.getD k []

/-- .. by Join. -/
def listedL (xs : List (List UInt8)) : List UInt8 :=
  if xs.length ≤ 1 then xs.getD 0 [] else Lib.join (xs.take (xs.length - 1)) comma ++ and5 ++ xs.getD (xs.length - 1) []

theorem join_snoc (xs : List (List UInt8)) (y sep : List UInt8) (h : xs ≠ []) : Lib.join (xs ++ [y]) sep = Lib.join xs sep ++ sep ++ y := by
  cases xs with
  | nil => exact absurd rfl h
  | cons x r =>
    rw [List.cons_append, Lib.join_cons, Lib.join_cons]
    simp [Lib.joinTail]

theorem modelTo_join (xs : List (List UInt8)) (k : Nat) (h : k + 1 ≤ xs.length) : modelTo xs k = Lib.join (xs.take k) comma := by
  induction k with
  | zero => rfl
  | succ k ih =>
    have e : xs.take (k + 1) = xs.take k ++ [xs.getD k []] := by
      rw [List.take_succ_eq_append_getElem (by omega)]; simp [List.getD, show k < xs.length by omega]
    rw [modelTo, ih (by omega), e]
    by_cases h0 : k = 0
    · subst h0; simp [Lib.join_one, Lib.join_nil]
    · rw [join_snoc _ _ _ (by intro hh; have := congrArg List.length hh; rw [List.length_take, List.length_nil] at this; omega), if_neg h0, if_neg (by omega)]

theorem model_listed (xs : List (List UInt8)) : modelTo xs xs.length = listedL xs := by
  unfold listedL
  by_cases h : xs.length ≤ 1
  · rw [if_pos h]
    match xs, h with
    | [], _ => rfl
    | [x], _ => simp [modelTo]
  · rw [if_neg h]
    obtain ⟨m, hm⟩ : ∃ m, xs.length = m + 1 := ⟨xs.length - 1, by omega⟩
    rw [hm, modelTo, modelTo_join xs m (by omega), if_neg (by omega), if_pos (by omega)]
    simp

def bytes (ss : List ByteArray) : List (List UInt8) := ss.map (·.data.toList)
/-- The law's sum over the first k. -/
def tot (ss : List ByteArray) : Nat → Nat
  | 0 => 0
  | k + 1 => tot ss k + ((ss.getD k ByteArray.empty).size + 5)

theorem bytes_len (ss : List ByteArray) : (bytes ss).length = ss.length := by simp [bytes]
theorem bytes_getD (ss : List ByteArray) (k : Nat) : (bytes ss).getD k [] = (ss.getD k ByteArray.empty).data.toList := by
  unfold bytes
  by_cases h : k < ss.length
  · simp [List.getD, h]
  · simp [List.getD, Nat.le_of_not_lt h]
theorem modelTo_len (ss : List ByteArray) (k : Nat) : (modelTo (bytes ss) k).length ≤ tot ss k := by
  induction k with
  | zero => simp [modelTo, tot]
  | succ k ih =>
    rw [modelTo, tot, bytes_getD]
    simp only [List.length_append, Array.length_toList, ByteArray.size_data]
    have : (if k = 0 then ([] : List UInt8) else if k = (bytes ss).length - 1 then and5 else comma).length ≤ 5 := by
      split
      · simp
      · split <;> simp [and5, comma]
    omega
theorem tot_mono (ss : List ByteArray) {j k : Nat} (h : j ≤ k) : tot ss j ≤ tot ss k := by
  induction k with
  | zero => obtain rfl : j = 0 := by omega
            exact Nat.le_refl _
  | succ k ih =>
    by_cases e : j = k + 1
    · subst e; exact Nat.le_refl _
    · have := ih (by omega); rw [tot]; omega
theorem tot_five (ss : List ByteArray) (k : Nat) : 5 * k ≤ tot ss k := by
  induction k with
  | zero => simp [tot]
  | succ k ih => rw [tot]; omega
theorem listed_len (ss : List ByteArray) : (listedL (bytes ss)).length ≤ tot ss ss.length := by
  rw [← model_listed, bytes_len]; exact modelTo_len ss _
theorem size_le (ss : List ByteArray) (k : Nat) (h : k < ss.length) : (ss.getD k ByteArray.empty).size ≤ tot ss ss.length := by
  have := tot_mono ss (show k + 1 ≤ ss.length by omega)
  rw [tot] at this; omega
theorem toList_append (a b : ByteArray) : (a ++ b).data.toList = a.data.toList ++ b.data.toList := by
  rw [ByteArray.data_append]; simp

/-- v owns a row of the bytes l, made since w. -/
def Buf (w wr : World) (v : Value) (l : List UInt8) : Prop := wr.ownsRow w.heap.size 5 1 v l.length (Lib.byteCells l) ∧ Below w.heap.size w wr

theorem buf_nil (w : World) : Buf w w (.slice none 0 0) [] := ⟨World.ownsRow_nil _ _ _ _, Below.refl _ _⟩
theorem buf_app {w wr w' : World} {v v' : Value} {l : List UInt8} {s : ByteArray} (h : Buf w wr v l) (hown : w'.ownsRow w.heap.size 5 1 v' (l.length + s.size) (Lib.byteCells l ++ Lib.strCells s)) (hg : wr.grownBy w' v.ownBlock) : Buf w w' v' (l ++ s.data.toList) := by
  refine ⟨?_, h.2.grown hg h.2.size fun k hk => (h.1.lt k hk).1⟩
  have e : Lib.byteCells (l ++ s.data.toList) = Lib.byteCells l ++ Lib.strCells s := by simp [Lib.byteCells, Lib.strCells]
  rw [e, List.length_append, Array.length_toList]
  exact hown
theorem buf_app2 {w wr w' : World} {v v' : Value} {l : List UInt8} {s : ByteArray} (h : Buf w wr v l) (hown : w'.ownsRow w.heap.size 5 1 v' (l.length + s.size) (Lib.byteCells l ++ Lib.strCells s)) (hg : wr.grownBy w' v.ownBlock) {a : Addr} {x : Value} (hc : w.cell? a = some x) : Hid (Buf w w' v' (l ++ s.data.toList)) ∧ w'.cell? a = some x :=
  ⟨buf_app h hown hg, cell_keep (buf_app h hown hg).2 hc⟩
theorem buf_back {w wr : World} {v : Value} {l : List UInt8} (h : Buf w wr v l) : (convert 30 9 v).run Yba.prog wr = .ok (.string ⟨l.toArray⟩) wr := by
  rcases h.1.2 with ⟨rfl, hn⟩ | ⟨g, cap, cur, rfl, hb, hg, h1, h2, h3, h4⟩
  · obtain rfl : l = [] := List.eq_nil_of_length_eq_zero hn
    rw [run_convert_bytes_string wr 30 9 5 _ 0 0 Yba.underlying30 Yba.underlying5 Yba.underlying9]
    simp [Conv.bytesToString]
    rfl
  · refine run_convert_bytes_back wr 30 9 5 ⟨g, 0, none⟩ cap l Yba.underlying30 Yba.underlying5 Yba.underlying9 fun j hj => ?_
    rw [Go.WideShapes.add_plain]
    unfold World.cell?
    simp only [hg]
    have hj2 : (cur.toList.take (l.length * 1))[j]? = (Lib.byteCells l)[j]? := by rw [h4]
    rw [List.getElem?_take_of_lt (by omega)] at hj2
    simpa [Lib.byteCells, hj] using hj2

theorem info5 : (Yba.prog.info? 5).map (fun i => (i.zero, i.size, i.bytes)) = some (some (.int .u8 0), 1, 1) := by kernel_rfl

set_option maxHeartbeats 2000000 in
theorem model_any (p : Option Addr) (ss : List ByteArray) (c : Nat) (w : World) (h : Row w p ss) (ht : tot ss ss.length ≤ 4194304) :
    Calls Yba.prog 7 #[.slice p ss.length c] w fun e w' => e = .returned (.string ⟨(listedL (bytes ss)).toArray⟩) ∧ Below w.heap.size w w' := by
  obtain ⟨i5, hi5, hh5⟩ := Option.map_eq_some_iff.1 info5
  simp only [Prod.mk.injEq] at hh5
  obtain ⟨hz5, hs5, hy5⟩ := hh5
  have H := Hid.mk h
  have HT := Hid.mk ht
  have h5 : 5 * ss.length ≤ 4194304 := Nat.le_trans (tot_five ss _) ht
  clear h ht
  go_enter Yba.func7, Yba.ntmps7
  go_wp2
  go_loopw [4, 5] (fun v i wr => ∃ k : Nat, k ≤ ss.length ∧ i = .int .i64 k ∧ Buf w wr v (modelTo (bytes ss) k)) (fun _ i _ => ss.length - (intOf i).toNat)
  case atStart => exact ⟨0, Nat.zero_le _, rfl, buf_nil w⟩
  case round =>
    obtain ⟨k, hk, rfl, hB⟩ := hrel
    by_cases hlt : k < ss.length
    · obtain ⟨b, o, rfl, hc⟩ := H.out (by omega)
      have c0 := hc k hlt
      have c1 := hB.2.cell (World.block_lt_of_cell? w _ c0)
      rw [c0] at c1
      have hkI : (k : Int) < (ss.length : Int) := by omega
      have hln : (modelTo (bytes ss) k).length ≤ 4194304 := Nat.le_trans (modelTo_len ss k) (Nat.le_trans (tot_mono ss hk) HT.out)
      have hsz : (ss.getD k ByteArray.empty).size ≤ 4194304 := Nat.le_trans (size_le ss k hlt) HT.out
      have HM : Hid (modelTo (bytes ss) (k + 1) = modelTo (bytes ss) k ++ (if k = 0 then [] else if k = ss.length - 1 then and5 else comma) ++ (ss.getD k ByteArray.empty).data.toList) := by
        unfold Hid; rw [modelTo, bytes_getD, bytes_len]
      have HB := Hid.mk hB
      have HC := Hid.mk c0
      clear hB hc c0
      generalize modelTo (bytes ss) k = l at *
      generalize ss.getD k ByteArray.empty = x at *
      by_cases h0 : k = 0
      · have h0I : decide (0 < k) = false := by simp [h0]
        have H0 := Hid.mk h0
        clear h0
        go_wp2_with (at_builtin; refine Lib.wpList_append_own_string _ rfl _ _ _ _ rfl w.heap.size 5 i5 Yba.underlying30 Yba.underlying9 hi5 hz5 hs5 hy5 u4 l.length (Lib.byteCells l) (by rfl) HB.out.1 x (by rfl) (by unfold maxLen; omega) (by omega) HB.out.2.size ?_; intro v' w' hown hgrow _)
        have HB2 := Hid.mk (buf_app HB.out hown hgrow)
        clear hown hgrow
        go_wp2
        go_roundw
        case rel => exact ⟨k + 1, by omega, by go_num, by rw [HM.out, if_pos H0.out, List.append_nil]; exact HB2.out⟩
        case measure => simp [intOf]; omega
      · have h0I : decide (0 < k) = true := by simp; omega
        have H0 := Hid.mk h0
        clear h0
        by_cases h1 : k = ss.length - 1
        · have h1I : ((k : Int) == (ss.length : Int) - 1) = true := by simp; omega
          have H1 := Hid.mk h1
          clear h1
          have hln2 : (l ++ (⟨#[32, 97, 110, 100, 32]⟩ : ByteArray).data.toList).length ≤ 4194309 := by simp; omega
          go_wp2_with (first | (at_builtin; refine Lib.wpList_append_own_string _ rfl _ _ _ _ rfl w.heap.size 5 i5 Yba.underlying30 Yba.underlying9 hi5 hz5 hs5 hy5 u4 l.length (Lib.byteCells l) (by rfl) HB.out.1 ⟨#[32, 97, 110, 100, 32]⟩ (by rfl) (by unfold maxLen; show l.length + 5 ≤ _; omega) (by show l.length + 5 ≤ _; omega) HB.out.2.size ?_; intro v' w' hown hgrow _; obtain ⟨HB2, c2⟩ := buf_app2 HB.out hown hgrow HC.out; clear hown hgrow; generalize hl2 : l ++ (⟨#[32, 97, 110, 100, 32]⟩ : ByteArray).data.toList = l2 at *; have HL2 := Hid.mk hl2; clear hl2) | (at_builtin; refine Lib.wpList_append_own_string _ rfl _ _ _ _ rfl w.heap.size 5 i5 Yba.underlying30 Yba.underlying9 hi5 hz5 hs5 hy5 v' l2.length (Lib.byteCells l2) (by rfl) HB2.out.1 x (by rfl) (by unfold maxLen; omega) (by omega) HB2.out.2.size ?_; intro v3 w3 hown hgrow _))
          have HB3 := Hid.mk (buf_app HB2.out hown hgrow)
          clear hown hgrow
          go_wp2
          go_roundw
          case rel => exact ⟨k + 1, by omega, by go_num, by rw [HM.out, if_neg H0.out, if_pos H1.out, show l ++ and5 = l2 from HL2.out]; exact HB3.out⟩
          case measure => simp [intOf]; omega
        · have h1I : ((k : Int) == (ss.length : Int) - 1) = false := by simp; omega
          have H1 := Hid.mk h1
          clear h1
          have hln2 : (l ++ (⟨#[44, 32]⟩ : ByteArray).data.toList).length ≤ 4194309 := by simp; omega
          go_wp2_with (first | (at_builtin; refine Lib.wpList_append_own_string _ rfl _ _ _ _ rfl w.heap.size 5 i5 Yba.underlying30 Yba.underlying9 hi5 hz5 hs5 hy5 u4 l.length (Lib.byteCells l) (by rfl) HB.out.1 ⟨#[44, 32]⟩ (by rfl) (by unfold maxLen; show l.length + 2 ≤ _; omega) (by show l.length + 2 ≤ _; omega) HB.out.2.size ?_; intro v' w' hown hgrow _; obtain ⟨HB2, c2⟩ := buf_app2 HB.out hown hgrow HC.out; clear hown hgrow; generalize hl2 : l ++ (⟨#[44, 32]⟩ : ByteArray).data.toList = l2 at *; have HL2 := Hid.mk hl2; clear hl2) | (at_builtin; refine Lib.wpList_append_own_string _ rfl _ _ _ _ rfl w.heap.size 5 i5 Yba.underlying30 Yba.underlying9 hi5 hz5 hs5 hy5 v' l2.length (Lib.byteCells l2) (by rfl) HB2.out.1 x (by rfl) (by unfold maxLen; omega) (by omega) HB2.out.2.size ?_; intro v3 w3 hown hgrow _))
          have HB3 := Hid.mk (buf_app HB2.out hown hgrow)
          clear hown hgrow
          go_wp2
          go_roundw
          case rel => exact ⟨k + 1, by omega, by go_num, by rw [HM.out, if_neg H0.out, if_neg H1.out, show l ++ comma = l2 from HL2.out]; exact HB3.out⟩
          case measure => simp [intOf]; omega
    · have e1 := buf_back hB
      have HB := Hid.mk hB
      have hge : decide ((k : Int) < (ss.length : Int)) = false := by simp; omega
      clear hB
      go_wp2
      go_ret
      have hl : modelTo (bytes ss) k = listedL (bytes ss) := by
        obtain rfl : k = ss.length := by omega
        rw [← model_listed, bytes_len]
      exact ⟨by rw [hl]; rfl, HB.out.2⟩

end Go.Proofs.Ybulkefbu.A
