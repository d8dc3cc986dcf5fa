/- LawS6569CWhole: bytes of the call's own; the varint appended. -/
import Derived.Test.YbulkefaeFmtF1
import Derived.OwnWalk
import Derived.Lib.AppendStr
import Derived.Lib.UnsafeStr
import Derived.Laws.IdiomStrings
import Derived.Deep.AppendLies
namespace Go.Proofs.YbulkefaeFmt
open Go.RowKit
set_option linter.unusedVariables false

/-- v owns a row of the bytes l, made since w. -/
def Buf (w wr : World) (v : Value) (l : List UInt8) : Prop := wr.ownsRow w.heap.size 5 1 v l.length (Lib.byteCells l) ∧ Below w.heap.size w wr

theorem buf_nil (w : World) : Buf w w (.slice none 0 0) [] := ⟨World.ownsRow_nil _ _ _ _, Below.refl _ _⟩
theorem buf_app {w wr w' : World} {v v' : Value} {l : List UInt8} {s : ByteArray} (h : Buf w wr v l) (hown : w'.ownsRow w.heap.size 5 1 v' (l.length + s.size) (Lib.byteCells l ++ Lib.strCells s)) (hg : wr.grownBy w' v.ownBlock) : Buf w w' v' (l ++ s.data.toList) := by
  refine ⟨?_, h.2.grown hg h.2.size fun k hk => (h.1.lt k hk).1⟩
  have e : Lib.byteCells (l ++ s.data.toList) = Lib.byteCells l ++ Lib.strCells s := by simp [Lib.byteCells, Lib.strCells]
  rw [e, List.length_append, Array.length_toList]
  exact hown

theorem one_new (w : World) (t : TypeId) (x : Value) : ∀ (j : Nat) (u : Value), ([x] : List Value)[j]? = some u → (w.alloc (.cells #[x] t)).cell? ((⟨w.heap.size, 0, none⟩ : Addr).add j) = some u := by
  intro j u h
  rcases j with _ | j
  · simp at h; subst h
    simp only [Addr.add, if_true]
    have : (w.alloc (.cells #[x] t)).heap[w.heap.size]? = some (.cells #[x] t) := heap_alloc_new w _
    unfold World.cell?
    simp only [this]
    rfl
  · simp at h

/-- One byte more. -/
theorem buf_push {w wr w' : World} {v v' : Value} {l : List UInt8} {q : Int} (h : Buf w wr v l) (h0 : 0 ≤ q) (h1 : q ≤ 255)
    (hown : w'.ownsRow w.heap.size 5 1 v' (l.length + 1) (Lib.byteCells l ++ [.int .u8 q])) (hg : (wr.alloc (.cells #[.int .u8 q] 5)).grownBy w' v.ownBlock) : Buf w w' v' (l ++ [UInt8.ofNat q.toNat]) := by
  have hb : Below w.heap.size w (wr.alloc (.cells #[.int .u8 q] 5)) := h.2.alloc h.2.size _
  refine ⟨?_, hb.grown hg hb.size fun k hk => (h.1.lt k hk).1⟩
  have e : ((UInt8.ofNat q.toNat).toNat : Int) = q := by
    have : q.toNat < 256 := by omega
    simp [Nat.mod_eq_of_lt this]
    omega
  rw [List.length_append]
  unfold Lib.byteCells at hown ⊢
  rw [List.map_append]
  simp only [List.map_cons, List.map_nil, e, List.length_cons, List.length_nil, Nat.zero_add]
  exact hown

theorem info5 : (Ybaf.prog.info? 5).map (fun i => (i.zero, i.size, i.bytes)) = some (some (.int .u8 0), 1, 1) := by kernel_rfl

set_option maxHeartbeats 4000000 in
set_option maxRecDepth 100000 in
theorem uvarint_any (w wr : World) (v : Value) (l : List UInt8) (n : Nat) (h : Buf w wr v l) (hn : n ≤ 1048576) (hl : l.length ≤ 4398046511104) :
    Calls Ybaf.prog 6 #[v, .int .u64 n] wr fun e w' => ∃ v' l', e = .returned v' ∧ Buf w w' v' l' ∧ l'.length ≤ l.length + n + 1 := by
  obtain ⟨i5, hi5, hh5⟩ := Option.map_eq_some_iff.1 info5
  simp only [Prod.mk.injEq] at hh5
  obtain ⟨hz5, hs5, hy5⟩ := hh5
  have H := Hid.mk h
  clear h
  go_enter Ybaf.func6, Ybaf.ntmps6
  go_wp2
  go_loopw [0, 1] (fun u i wq => ∃ (m : Nat) (l' : List UInt8), i = .int .u64 m ∧ Buf w wq u l' ∧ l'.length + m ≤ l.length + n ∧ m ≤ 1048576) (fun _ i _ => (intOf i).toNat)
  case atStart => exact ⟨n, l, rfl, H.out, by omega, hn⟩
  case round =>
    obtain ⟨m, l', rfl, hB, hlm, hm⟩ := hrel
    have HB := Hid.mk hB
    clear hB
    by_cases hge : 128 ≤ m
    · have hgI : decide ((m : Int) < 128) = false := by simp; omega
      have hlo := bits_lo_u8 .or (IntKind.u8.wrap (m : Int)) 128
      have hhi := bits_hi_u8 .or (IntKind.u8.wrap (m : Int)) 128
      go_wp2_with (at_builtin; refine wpList_append_lies _ rfl _ _ _ rfl w.heap.size 5 i5 (.int .u8 0) 1 1 Ybaf.underlying22 hi5 hz5 hs5 hy5 rfl (by omega) u0 l'.length (Lib.byteCells l') (by rfl) (by exact (HB.out.1.alloc _)) _ 1 1 [.int .u8 (bits .or .u8 (IntKind.u8.wrap (m : Int)) 128)] (by rfl) rfl (one_new _ _ _) (by simp [Value.oneCell']) (by omega) (by unfold maxLen; omega) (by omega) (by have := HB.out.2.size; simp; omega) _ rfl ?_; intro g' cap' w1 hown hgrow hat hlt1)
      have HB2 := Hid.mk (buf_push HB.out hlo hhi hown hgrow)
      refine ⟨⟨m / 128, _, by go_num, HB2.out, by simp; omega, by omega⟩, by simp [intOf]; omega⟩
    · have hgI : decide ((m : Int) < 128) = true := by simp; omega
      have hw8 : IntKind.u8.wrap (m : Int) = (m : Int) := by
        show (m : Int) % 256 = m
        omega
      go_wp2_with (at_builtin; refine wpList_append_lies _ rfl _ _ _ rfl w.heap.size 5 i5 (.int .u8 0) 1 1 Ybaf.underlying22 hi5 hz5 hs5 hy5 rfl (by omega) u0 l'.length (Lib.byteCells l') (by rfl) (by exact (HB.out.1.alloc _)) _ 1 1 [.int .u8 (m : Int)] (by rfl) rfl (one_new _ _ _) (by simp [Value.oneCell']) (by omega) (by unfold maxLen; omega) (by omega) (by have := HB.out.2.size; simp; omega) _ rfl ?_; intro g' cap' w1 hown hgrow hat hlt1)
      have HB2 := Hid.mk (buf_push HB.out (by omega) (by omega) hown hgrow)
      go_ret
      exact ⟨_, _, rfl, HB2.out, by simp; omega⟩

/-- The bytes of a buffer. -/
theorem buf_bytes {w wr : World} {v : Value} {l : List UInt8} (h : Buf w wr v l) : ∃ p c, v = .slice p l.length c ∧ Bytes wr p l ∧ l.length ≤ c ∧ c ≤ maxLen ∧ (p = none → l = []) ∧ ∀ x, p = some x → w.heap.size ≤ x.block ∧ x.spot = none := by
  rcases h.1.2 with ⟨rfl, hn⟩ | ⟨g, cap, cur, rfl, hb, hg, h1, h2, h3, h4⟩
  · obtain rfl : l = [] := List.eq_nil_of_length_eq_zero hn
    exact ⟨none, 0, rfl, fun h => absurd h (Nat.lt_irrefl 0), Nat.le_refl _, Nat.zero_le _, fun _ => rfl, by simp⟩
  · refine ⟨some ⟨g, 0, none⟩, cap, rfl, fun _ => ⟨g, 0, rfl, fun j hj => ?_⟩, h1, h2, by simp, fun x hx => by simp at hx; subst hx; exact ⟨hb, rfl⟩⟩
    unfold World.cell?
    simp only [hg]
    have hj2 : (cur.toList.take (l.length * 1))[j]? = (Lib.byteCells l)[j]? := by rw [h4]
    rw [List.getElem?_take_of_lt (by omega)] at hj2
    simpa [Lib.byteCells, hj] using hj2
end Go.Proofs.YbulkefaeFmt
