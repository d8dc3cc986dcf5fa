/- LawS6569CWhole: the closed facts for a walk over fmt.Errorf (after the kit's GuardFmt), and its contract. -/
import Derived.Test.YbulkefaeFmtF2
import Derived.Stop.CallBack
import Derived.Stop.IfaceNil
import Derived.Laws.RangeAny
import Derived.Lib.OthersKept
import GoSem.ClaimData
namespace Go.Proofs
open Go.Extern.Stop Go.Stop Go.Extern

@[go_sem] theorem Ybaf.call45 (args : Array Value) (w : World) : (callFunc 45 args).run Ybaf.prog w = ((FmtStop.errorf #[9, 77] #[37] args).run Ybaf.prog w).andThen fun v w' => .ok (.value v) w' :=
  run_callFunc_extern Ybaf.func45 (by kernel_rfl) (by kernel_rfl) (by kernel_rfl) (by kernel_rfl) args w
@[go_sem] theorem Ybaf.guard (name : String) (w : World) : (FmtStop.guard name).run Ybaf.prog w = .ok () w := by kernel_rfl
def Ybaf.fm0 : ByteArray := ⟨#[118, 97, 108, 117, 101, 32, 105, 115, 32, 101, 109, 112, 116, 121]⟩
@[go_sem] theorem Ybaf.fmt0 : FmtStop.printed? ⟨#[118, 97, 108, 117, 101, 32, 105, 115, 32, 101, 109, 112, 116, 121]⟩ 0 = some [] := by kernel_rfl
@[go_sem] theorem Ybaf.fmt0r (w : World) : (FmtDoors.printed ⟨#[118, 97, 108, 117, 101, 32, 105, 115, 32, 101, 109, 112, 116, 121]⟩ 0).run Ybaf.prog w = .ok [] w := by kernel_rfl
def Ybaf.fm1 : ByteArray := ⟨#[118, 97, 108, 117, 101, 32, 105, 115, 32, 37, 100, 32, 98, 121, 116, 101, 115, 32, 108, 111, 110, 103, 59, 32, 97, 116, 32, 109, 111, 115, 116, 32, 37, 100, 32, 97, 114, 101, 32, 97, 108, 108, 111, 119, 101, 100]⟩
@[go_sem] theorem Ybaf.fmt1 : FmtStop.printed? ⟨#[118, 97, 108, 117, 101, 32, 105, 115, 32, 37, 100, 32, 98, 121, 116, 101, 115, 32, 108, 111, 110, 103, 59, 32, 97, 116, 32, 109, 111, 115, 116, 32, 37, 100, 32, 97, 114, 101, 32, 97, 108, 108, 111, 119, 101, 100]⟩ 2 = some [(0, 100, false), (1, 100, false)] := by kernel_rfl
@[go_sem] theorem Ybaf.fmt1r (w : World) : (FmtDoors.printed ⟨#[118, 97, 108, 117, 101, 32, 105, 115, 32, 37, 100, 32, 98, 121, 116, 101, 115, 32, 108, 111, 110, 103, 59, 32, 97, 116, 32, 109, 111, 115, 116, 32, 37, 100, 32, 97, 114, 101, 32, 97, 108, 108, 111, 119, 101, 100]⟩ 2).run Ybaf.prog w = .ok [(0, 100, false), (1, 100, false)] w := by kernel_rfl
@[go_sem] theorem Ybaf.fmt1z : FmtStop.printed? ⟨#[118, 97, 108, 117, 101, 32, 105, 115, 32, 37, 100, 32, 98, 121, 116, 101, 115, 32, 108, 111, 110, 103, 59, 32, 97, 116, 32, 109, 111, 115, 116, 32, 37, 100, 32, 97, 114, 101, 32, 97, 108, 108, 111, 119, 101, 100]⟩ 0 = some [] := by kernel_rfl
@[go_sem] theorem Ybaf.fmt1zr (w : World) : (FmtDoors.printed ⟨#[118, 97, 108, 117, 101, 32, 105, 115, 32, 37, 100, 32, 98, 121, 116, 101, 115, 32, 108, 111, 110, 103, 59, 32, 97, 116, 32, 109, 111, 115, 116, 32, 37, 100, 32, 97, 114, 101, 32, 97, 108, 108, 111, 119, 101, 100]⟩ 0).run Ybaf.prog w = .ok [] w := by kernel_rfl
def Ybaf.fm2 : ByteArray := ⟨#[118, 97, 108, 117, 101, 32, 37, 113, 32, 99, 111, 110, 116, 97, 105, 110, 115, 32, 119, 104, 105, 116, 101, 32, 115, 112, 97, 99, 101, 32, 37, 113]⟩
@[go_sem] theorem Ybaf.fmt2 : FmtStop.printed? ⟨#[118, 97, 108, 117, 101, 32, 37, 113, 32, 99, 111, 110, 116, 97, 105, 110, 115, 32, 119, 104, 105, 116, 101, 32, 115, 112, 97, 99, 101, 32, 37, 113]⟩ 2 = some [(0, 113, false), (1, 113, false)] := by kernel_rfl
@[go_sem] theorem Ybaf.fmt2r (w : World) : (FmtDoors.printed ⟨#[118, 97, 108, 117, 101, 32, 37, 113, 32, 99, 111, 110, 116, 97, 105, 110, 115, 32, 119, 104, 105, 116, 101, 32, 115, 112, 97, 99, 101, 32, 37, 113]⟩ 2).run Ybaf.prog w = .ok [(0, 113, false), (1, 113, false)] w := by kernel_rfl
@[go_sem] theorem Ybaf.fmt2z : FmtStop.printed? ⟨#[118, 97, 108, 117, 101, 32, 37, 113, 32, 99, 111, 110, 116, 97, 105, 110, 115, 32, 119, 104, 105, 116, 101, 32, 115, 112, 97, 99, 101, 32, 37, 113]⟩ 0 = some [] := by kernel_rfl
@[go_sem] theorem Ybaf.fmt2zr (w : World) : (FmtDoors.printed ⟨#[118, 97, 108, 117, 101, 32, 37, 113, 32, 99, 111, 110, 116, 97, 105, 110, 115, 32, 119, 104, 105, 116, 101, 32, 115, 112, 97, 99, 101, 32, 37, 113]⟩ 0).run Ybaf.prog w = .ok [] w := by kernel_rfl
def Ybaf.fm3 : ByteArray := ⟨#[101, 108, 101, 109, 101, 110, 116, 32, 37, 113, 32, 97, 102, 116, 101, 114, 32, 37, 113, 58, 32, 97, 32, 115, 101, 116, 39, 115, 32, 101, 108, 101, 109, 101, 110, 116, 115, 32, 97, 114, 101, 32, 105, 110, 32, 97, 115, 99, 101, 110, 100, 105, 110, 103, 32, 98, 121, 116, 101, 32, 111, 114, 100, 101, 114]⟩
@[go_sem] theorem Ybaf.fmt3 : FmtStop.printed? ⟨#[101, 108, 101, 109, 101, 110, 116, 32, 37, 113, 32, 97, 102, 116, 101, 114, 32, 37, 113, 58, 32, 97, 32, 115, 101, 116, 39, 115, 32, 101, 108, 101, 109, 101, 110, 116, 115, 32, 97, 114, 101, 32, 105, 110, 32, 97, 115, 99, 101, 110, 100, 105, 110, 103, 32, 98, 121, 116, 101, 32, 111, 114, 100, 101, 114]⟩ 2 = some [(0, 113, false), (1, 113, false)] := by kernel_rfl
@[go_sem] theorem Ybaf.fmt3r (w : World) : (FmtDoors.printed ⟨#[101, 108, 101, 109, 101, 110, 116, 32, 37, 113, 32, 97, 102, 116, 101, 114, 32, 37, 113, 58, 32, 97, 32, 115, 101, 116, 39, 115, 32, 101, 108, 101, 109, 101, 110, 116, 115, 32, 97, 114, 101, 32, 105, 110, 32, 97, 115, 99, 101, 110, 100, 105, 110, 103, 32, 98, 121, 116, 101, 32, 111, 114, 100, 101, 114]⟩ 2).run Ybaf.prog w = .ok [(0, 113, false), (1, 113, false)] w := by kernel_rfl
@[go_sem] theorem Ybaf.fmt3z : FmtStop.printed? ⟨#[101, 108, 101, 109, 101, 110, 116, 32, 37, 113, 32, 97, 102, 116, 101, 114, 32, 37, 113, 58, 32, 97, 32, 115, 101, 116, 39, 115, 32, 101, 108, 101, 109, 101, 110, 116, 115, 32, 97, 114, 101, 32, 105, 110, 32, 97, 115, 99, 101, 110, 100, 105, 110, 103, 32, 98, 121, 116, 101, 32, 111, 114, 100, 101, 114]⟩ 0 = some [] := by kernel_rfl
@[go_sem] theorem Ybaf.fmt3zr (w : World) : (FmtDoors.printed ⟨#[101, 108, 101, 109, 101, 110, 116, 32, 37, 113, 32, 97, 102, 116, 101, 114, 32, 37, 113, 58, 32, 97, 32, 115, 101, 116, 39, 115, 32, 101, 108, 101, 109, 101, 110, 116, 115, 32, 97, 114, 101, 32, 105, 110, 32, 97, 115, 99, 101, 110, 100, 105, 110, 103, 32, 98, 121, 116, 101, 32, 111, 114, 100, 101, 114]⟩ 0).run Ybaf.prog w = .ok [] w := by kernel_rfl

def Ybaf.shape9 : List UInt8 := [12, 6, 0, 0, 0, 0, 0, 0, 0, 115, 116, 114, 105, 110, 103]
def Ybaf.shape3 : List UInt8 := [5, 3, 0, 0, 0, 0, 0, 0, 0, 105, 110, 116]
def Ybaf.shape21 : List UInt8 := [4, 5, 0, 0, 0, 0, 0, 0, 0, 105, 110, 116, 51, 50]
@[go_sem] theorem Ybaf.op9_113 (name : String) (x : ByteArray) (w : World) : (FmtStop.operand name false 113 false (.iface 9 (.string x))).run Ybaf.prog w = .ok (Ybaf.shape9, FmtStop.pack x.data.toList) w := by kernel_rfl
@[go_sem] theorem Ybaf.op9_113w (name : String) (x : ByteArray) (w : World) : (FmtStop.operand name true 113 false (.iface 9 (.string x))).run Ybaf.prog w = .ok (Ybaf.shape9, FmtStop.pack x.data.toList) w := by kernel_rfl
@[go_sem] theorem Ybaf.op9_118 (name : String) (x : ByteArray) (w : World) : (FmtStop.operand name false 118 false (.iface 9 (.string x))).run Ybaf.prog w = .ok (Ybaf.shape9, FmtStop.pack x.data.toList) w := by kernel_rfl
@[go_sem] theorem Ybaf.op9_118w (name : String) (x : ByteArray) (w : World) : (FmtStop.operand name true 118 false (.iface 9 (.string x))).run Ybaf.prog w = .ok (Ybaf.shape9, FmtStop.pack x.data.toList) w := by kernel_rfl
@[go_sem] theorem Ybaf.op3_100 (name : String) (x : Int) (w : World) : (FmtStop.operand name false 100 false (.iface 3 (.int .i64 x))).run Ybaf.prog w = .ok (Ybaf.shape3, Go.Extern.Stop.digits 8 (x % 2 ^ 64).toNat) w := by kernel_rfl
@[go_sem] theorem Ybaf.op3_100w (name : String) (x : Int) (w : World) : (FmtStop.operand name true 100 false (.iface 3 (.int .i64 x))).run Ybaf.prog w = .ok (Ybaf.shape3, Go.Extern.Stop.digits 8 (x % 2 ^ 64).toNat) w := by kernel_rfl
@[go_sem] theorem Ybaf.op3_118 (name : String) (x : Int) (w : World) : (FmtStop.operand name false 118 false (.iface 3 (.int .i64 x))).run Ybaf.prog w = .ok (Ybaf.shape3, Go.Extern.Stop.digits 8 (x % 2 ^ 64).toNat) w := by kernel_rfl
@[go_sem] theorem Ybaf.op3_118w (name : String) (x : Int) (w : World) : (FmtStop.operand name true 118 false (.iface 3 (.int .i64 x))).run Ybaf.prog w = .ok (Ybaf.shape3, Go.Extern.Stop.digits 8 (x % 2 ^ 64).toNat) w := by kernel_rfl
@[go_sem] theorem Ybaf.op21_113 (name : String) (x : Int) (w : World) : (FmtStop.operand name false 113 false (.iface 21 (.int .i32 x))).run Ybaf.prog w = .ok (Ybaf.shape21, Go.Extern.Stop.digits 8 (x % 2 ^ 64).toNat) w := by kernel_rfl
@[go_sem] theorem Ybaf.op21_113w (name : String) (x : Int) (w : World) : (FmtStop.operand name true 113 false (.iface 21 (.int .i32 x))).run Ybaf.prog w = .ok (Ybaf.shape21, Go.Extern.Stop.digits 8 (x % 2 ^ 64).toNat) w := by kernel_rfl
@[go_sem] theorem Ybaf.op21_118 (name : String) (x : Int) (w : World) : (FmtStop.operand name false 118 false (.iface 21 (.int .i32 x))).run Ybaf.prog w = .ok (Ybaf.shape21, Go.Extern.Stop.digits 8 (x % 2 ^ 64).toNat) w := by kernel_rfl
@[go_sem] theorem Ybaf.op21_118w (name : String) (x : Int) (w : World) : (FmtStop.operand name true 118 false (.iface 21 (.int .i32 x))).run Ybaf.prog w = .ok (Ybaf.shape21, Go.Extern.Stop.digits 8 (x % 2 ^ 64).toNat) w := by kernel_rfl
@[go_sem] theorem Ybaf.ptr87 (w : World) : (FmtStop.ptrTo "errors.errorString").run Ybaf.prog w = .ok 87 w := by kernel_rfl
@[go_sem] theorem Ybaf.elem87 (w : World) : (elemOf 87).run Ybaf.prog w = .ok 89 w := by kernel_rfl
end Go.Proofs
namespace Go.Proofs.YbulkefaeFmt
open Go.RowKit Go.Extern.Stop Go.Stop Go.Extern
set_option linter.unusedVariables false

/-- A plain block, nothing of it frozen. -/
def PlainAt (w : World) (b : Nat) : Prop := ∃ c t, w.heap[b]? = some (.cells c t (0, 0))
theorem PlainAt.lt {w : World} {b : Nat} (h : PlainAt w b) : b < w.heap.size := by
  obtain ⟨c, t, h⟩ := h
  exact (Array.getElem?_eq_some_iff.1 h).1
theorem PlainAt.same {w w' : World} {b : Nat} (h : PlainAt w b) (e : w'.heap[b]? = w.heap[b]?) : PlainAt w' b := by
  obtain ⟨c, t, h⟩ := h
  exact ⟨c, t, e.trans h⟩
/-- A new error. -/
def NewErr (w : World) (e : Ending) (w' : World) : Prop := ∃ k, e = .returned (.iface 87 (.pointer (some ⟨k, 0, none⟩))) ∧ w.heap.size ≤ k ∧ PlainAt w' k ∧ Below w.heap.size w w'

theorem errorf0 (F : Interp) (w : World) (hF : F.answers w.tape) : Calls Ybaf.prog 36 #[.string Ybaf.fm0, .slice none 0 0] w (NewErr w) := by
  have hF' := answers_open hF
  unfold Ybaf.fm0
  go_enter Ybaf.func36, Ybaf.ntmps36
  go_wp2
  go_ret
  exact ⟨_, rfl, Nat.le_refl _, ⟨_, _, heap_alloc_new w _⟩, (Below.refl _ _).alloc (Nat.le_refl _) _⟩

theorem errorf1 (F : Interp) (n m : Int) (blk : Nat) (w : World) (hF : F.answers w.tape) (hc0 : w.cell? ⟨blk, 0, none⟩ = some (.iface 3 (.int .i64 n))) (hc1 : w.cell? ⟨blk, 1, none⟩ = some (.iface 3 (.int .i64 m))) :
    Calls Ybaf.prog 36 #[.string Ybaf.fm1, .slice (some ⟨blk, 0, none⟩) 2 2] w (NewErr w) := by
  have hF' := answers_open hF
  unfold Ybaf.fm1
  go_enter Ybaf.func36, Ybaf.ntmps36
  go_wp2
  go_ret
  exact ⟨_, rfl, Nat.le_refl _, ⟨_, _, heap_alloc_new w _⟩, ((Below.refl _ _).alloc (Nat.le_refl _) _).drew⟩

theorem errorf2 (F : Interp) (x : ByteArray) (r : Int) (blk : Nat) (w : World) (hF : F.answers w.tape) (hc0 : w.cell? ⟨blk, 0, none⟩ = some (.iface 9 (.string x))) (hc1 : w.cell? ⟨blk, 1, none⟩ = some (.iface 21 (.int .i32 r))) :
    Calls Ybaf.prog 36 #[.string Ybaf.fm2, .slice (some ⟨blk, 0, none⟩) 2 2] w (NewErr w) := by
  have hF' := answers_open hF
  unfold Ybaf.fm2
  go_enter Ybaf.func36, Ybaf.ntmps36
  go_wp2
  go_ret
  exact ⟨_, rfl, Nat.le_refl _, ⟨_, _, heap_alloc_new w _⟩, ((Below.refl _ _).alloc (Nat.le_refl _) _).drew⟩

theorem errorf3 (F : Interp) (x y : ByteArray) (blk : Nat) (w : World) (hF : F.answers w.tape) (hc0 : w.cell? ⟨blk, 0, none⟩ = some (.iface 9 (.string x))) (hc1 : w.cell? ⟨blk, 1, none⟩ = some (.iface 9 (.string y))) :
    Calls Ybaf.prog 36 #[.string Ybaf.fm3, .slice (some ⟨blk, 0, none⟩) 2 2] w (NewErr w) := by
  have hF' := answers_open hF
  unfold Ybaf.fm3
  go_enter Ybaf.func36, Ybaf.ntmps36
  go_wp2
  go_ret
  exact ⟨_, rfl, Nat.le_refl _, ⟨_, _, heap_alloc_new w _⟩, ((Below.refl _ _).alloc (Nat.le_refl _) _).drew⟩

/-! ### A string without white space -/
/-- Is there white space from pos on (fuel). -/
def spaced (s : ByteArray) : Nat → Nat → Bool
  | 0, _ => false
  | f + 1, pos => if pos < s.size then (if Lib.isSpaceZ (Utf8.decode s pos).1 then true else spaced s f (pos + (Utf8.decode s pos).2)) else false
def validS (s : ByteArray) : Bool := decide (s.size ≠ 0) && decide (s.size ≤ 255) && !spaced s s.size 0

theorem decode_wide (s : ByteArray) (pos : Nat) (h : pos < s.size) : 1 ≤ (Utf8.decode s pos).2 := by
  by_cases ha : (s[pos]'h).toNat < 128
  · rw [decode_ascii s pos h ha]; exact Nat.le_refl _
  · exact (decode_high s pos h (by omega)).2

theorem valid_small (s : ByteArray) (w : World) (h : s.size = 0 ∨ 255 < s.size) (hs : s.size ≤ 140737488355328) : Calls Ybaf.prog 17 #[.string s] w fun e w' => e = .returned (.bool (validS s)) ∧ Below w.heap.size w w' := by
  have hv : validS s = false := by
    unfold validS
    rcases h with h | h
    · simp [h]
    · have : decide (s.size ≤ 255) = false := by simp; omega
      simp [this]
  rcases h with h | h
  · go_enter Ybaf.func17, Ybaf.ntmps17
    go_wp2
    go_ret
    exact ⟨by rw [hv]; rfl, Below.refl _ _⟩
  · have h1 : ((s.size : Int) == 0) = false := by rw [beq_eq_false_iff_ne]; omega
    have h2 : (255 : Int) < (s.size : Int) := by omega
    go_enter Ybaf.func17, Ybaf.ntmps17
    go_wp2
    go_ret
    exact ⟨by rw [hv]; rfl, Below.refl _ _⟩

/-- The iterator stands at pos. -/
def At (w wr : World) (s : ByteArray) (pos : Nat) : Prop := Below w.heap.size w wr ∧ wr.heap[w.heap.size]? = some (.stringIter s pos)
theorem at_start (w : World) (s : ByteArray) : At w (w.iter s 0) s 0 := ⟨(Below.refl _ _).alloc (Nat.le_refl _) _, World.iter_heap w s 0⟩
theorem at_next {w wr : World} {s : ByteArray} {pos pos' : Nat} (h : At w wr s pos) : At w (wr.iterAt w.heap.size s pos') s pos' :=
  ⟨Lib.below_iterAt h.1 (Nat.le_refl _) s pos', Lib.iterAt_heap wr _ s pos pos' h.2⟩
theorem at_drewN {w wr : World} {s : ByteArray} {pos : Nat} (h : At w wr s pos) (k : Nat) : At w (wr.drewN k) s pos := ⟨⟨h.1.os, h.1.tape, h.1.output, h.1.size, h.1.block⟩, h.2⟩
theorem at_pos {w wr : World} {s : ByteArray} {pos : Nat} (h : At w wr s pos) : wr.iterPos w.heap.size = pos := by simp [World.iterPos, h.2]

/-- The loop's relation. -/
def Ranged (w wr : World) (s : ByteArray) : Prop := ∃ pos f, At w wr s pos ∧ s.size ≤ pos + f ∧ spaced s s.size 0 = spaced s f pos

set_option maxHeartbeats 1000000 in
theorem valid_loop (s : ByteArray) (w : World) (h0 : s.size ≠ 0) (h255 : s.size ≤ 255) : Calls Ybaf.prog 17 #[.string s] w fun e w' => e = .returned (.bool (validS s)) ∧ Below w.heap.size w w' := by
  have hv : validS s = !spaced s s.size 0 := by simp [validS, h0, h255]
  rw [hv]
  have h1 : ((s.size : Int) == 0) = false := by rw [beq_eq_false_iff_ne]; omega
  have h2 : (s.size : Int) ≤ 255 := by omega
  clear hv
  go_enter Ybaf.func17, Ybaf.ntmps17
  go_wp2
  go_loopw [4] (fun _ wr => Ranged w wr s) (fun _ wr => s.size - wr.iterPos w.heap.size)
  case atStart => exact ⟨0, s.size, at_start w s, by omega, rfl⟩
  case round =>
    obtain ⟨pos, f, hat, hf, hsp⟩ := hrel
    have hp := at_pos hat
    by_cases hlt : pos < s.size
    · obtain ⟨f, rfl⟩ : ∃ f', f = f' + 1 := ⟨f - 1, by omega⟩
      rw [spaced, if_pos hlt] at hsp
      have hnx := fun ty => Lib.run_next_any_at (P := Ybaf.prog) wr w.heap.size s pos ty hat.2 hlt
      have hwd := decode_wide s pos hlt
      have HA : Hid (At w (wr.iterAt w.heap.size s (pos + (Utf8.decode s pos).2)) s (pos + (Utf8.decode s pos).2)) := at_next hat
      have HS := Hid.mk hsp
      clear hat hsp
      generalize hW : wr.iterAt w.heap.size s (pos + (Utf8.decode s pos).2) = W at *
      generalize (Utf8.decode s pos).2 = d at *
      generalize (Utf8.decode s pos).1 = r at *
      clear hW
      cases hb : Lib.isSpaceZ (r : Int) with
      | true =>
        have HV : Hid (spaced s s.size 0 = true) := by unfold Hid; rw [HS.out, if_pos hb]
        go_wp2_with (go_at_call 31; refine (space_any (r : Int) W).mono ?_; rintro e w' ⟨rfl, rfl⟩)
        go_ret
        exact ⟨by rw [HV.out]; rfl, HA.out.1⟩
      | false =>
        have HV : Hid (spaced s s.size 0 = spaced s f (pos + d)) := by unfold Hid; rw [HS.out, if_neg (by rw [hb]; simp)]
        go_wp2_with (go_at_call 31; refine (space_any (r : Int) W).mono ?_; rintro e w' ⟨rfl, rfl⟩)
        go_roundw
        case rel => exact ⟨pos + d, f, HA.out, by omega, HV.out⟩
        case measure => rw [at_pos HA.out, hp]; omega
    · have hnx := fun ty => Lib.run_next_end_at (P := Ybaf.prog) wr w.heap.size s pos ty hat.2 hlt
      have HV : Hid (spaced s s.size 0 = false) := by
        unfold Hid; rw [hsp]
        cases f with
        | zero => rfl
        | succ f => rw [spaced, if_neg hlt]
      have HA := Hid.mk hat
      clear hat hsp
      go_wp2
      go_ret
      exact ⟨by rw [HV.out]; rfl, HA.out.1⟩

theorem valid_any (s : ByteArray) (w : World) (hs : s.size ≤ 140737488355328) : Calls Ybaf.prog 17 #[.string s] w fun e w' => e = .returned (.bool (validS s)) ∧ Below w.heap.size w w' := by
  by_cases h : s.size = 0 ∨ 255 < s.size
  · exact valid_small s w h hs
  · exact valid_loop s w (by omega) (by omega)
end Go.Proofs.YbulkefaeFmt
