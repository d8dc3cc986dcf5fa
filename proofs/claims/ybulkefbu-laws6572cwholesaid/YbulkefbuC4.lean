/- LawS6572CWhole: the plain law of the runs. -/
import Derived.Test.YbulkefbuC2
namespace Go.Proofs.Ybulkefbu.C
set_option linter.unusedVariables false

/-- The first places of the runs among the first n lines. -/
def sts (L : Nat → Int) : Nat → List Nat
  | 0 => []
  | i + 1 => if i = 0 ∨ L i ≠ L (i - 1) then sts L i ++ [i] else sts L i

theorem sts_runs (L : Nat → Int) : ∀ n, Runs n (sts L n).length L (fun r => (sts L n).getD r 0)
  | 0 => ⟨fun _ => rfl, fun h => absurd h (by simp [sts]), fun r h => absurd h (by simp [sts]), fun r h => absurd h (by simp [sts]), fun r h => absurd h (by simp [sts]), fun r h => absurd h (by simp [sts]), by simp [sts]⟩
  | n + 1 => by
    have ih := sts_runs L n
    have hl := ih.runs_le
    by_cases hc : n = 0 ∨ L n ≠ L (n - 1)
    · have e : sts L (n + 1) = sts L n ++ [n] := by simp [sts, hc]
      rw [e]
      generalize hx : sts L n = xs at *
      have old : ∀ r, r < xs.length → (xs ++ [n]).getD r 0 = xs.getD r 0 := fun r hr => by simp [List.getD, List.getElem?_append_left hr]
      have new : (xs ++ [n]).getD xs.length 0 = n := by simp [List.getD]
      have f1 : ∀ r, r < xs.length → fin (fun r => (xs ++ [n]).getD r 0) (xs ++ [n]).length (n + 1) r = fin (fun r => xs.getD r 0) xs.length n r := by
        intro r hr
        unfold fin
        by_cases h1 : r + 1 < xs.length
        · rw [if_pos (by simp; omega), if_pos h1]; exact old _ h1
        · rw [if_pos (by simp; omega), if_neg h1]
          have : r + 1 = xs.length := by omega
          rw [this]; exact new
      have f2 : fin (fun r => (xs ++ [n]).getD r 0) (xs ++ [n]).length (n + 1) xs.length = n + 1 := by
        unfold fin; rw [if_neg (by simp)]
      refine ⟨fun h => absurd h (by simp), fun _ => ?_, fun r hr => ?_, fun r hr => ?_, fun r hr i h1 h2 => ?_, fun r hr => ?_, by simp; omega⟩
      · by_cases h0 : 0 < xs.length
        · show (xs ++ [n]).getD 0 0 = 0
          rw [old 0 h0]; exact ih.zero h0
        · have hz : xs = [] := List.eq_nil_of_length_eq_zero (by omega)
          have : n = 0 := ih.none (by simp [hz])
          simp [hz, this]
      · by_cases h0 : r < xs.length
        · rw [f1 r h0]; show (xs ++ [n]).getD r 0 < _; rw [old r h0]; exact ih.pos r h0
        · have : r = xs.length := by simp at hr; omega
          subst this
          rw [f2]; show (xs ++ [n]).getD xs.length 0 < _; rw [new]; omega
      · by_cases h0 : r < xs.length
        · rw [f1 r h0]; have := ih.le r h0; omega
        · have : r = xs.length := by simp at hr; omega
          subst this
          rw [f2]; omega
      · by_cases h0 : r < xs.length
        · rw [f1 r h0] at h2
          have h1' : (xs ++ [n]).getD r 0 ≤ i := h1
          show L i = L ((xs ++ [n]).getD r 0)
          rw [old r h0] at h1' ⊢
          exact ih.same r h0 i h1' h2
        · have : r = xs.length := by simp at hr; omega
          subst this
          rw [f2] at h2
          have h1' : (xs ++ [n]).getD xs.length 0 ≤ i := h1
          show L i = L ((xs ++ [n]).getD xs.length 0)
          rw [new] at h1' ⊢
          rw [show i = n from by omega]
      · show L ((xs ++ [n]).getD (r + 1) 0) ≠ L ((xs ++ [n]).getD r 0)
        by_cases h0 : r + 1 < xs.length
        · rw [old _ h0, old _ (by omega)]; exact ih.diff r h0
        · have hr1 : r + 1 = xs.length := by simp at hr; omega
          rw [hr1, new, old r (by omega)]
          have hp := ih.pos r (by omega)
          have hf : fin (fun r => xs.getD r 0) xs.length n r = n := by unfold fin; rw [if_neg (by omega)]
          rw [hf] at hp
          have hp' : xs.getD r 0 < n := hp
          have hs := ih.same r (by omega) (n - 1) (by show xs.getD r 0 ≤ _; omega) (by rw [hf]; omega)
          rw [← show L (n - 1) = L (xs.getD r 0) from hs]
          rcases hc with hc | hc
          · omega
          · exact hc
    · have e : sts L (n + 1) = sts L n := by simp [sts, hc]
      rw [e]
      have hn : n ≠ 0 := fun h => hc (.inl h)
      have hL : L n = L (n - 1) := Classical.byContradiction fun h => hc (.inr h)
      have hpos : 0 < (sts L n).length := Nat.pos_of_ne_zero fun h => hn (ih.none h)
      generalize hx : sts L n = xs at *
      have f1 : ∀ r, r + 1 < xs.length → fin (fun r => xs.getD r 0) xs.length (n + 1) r = fin (fun r => xs.getD r 0) xs.length n r := by
        intro r hr; unfold fin; rw [if_pos hr, if_pos hr]
      have f2 : ∀ r, ¬ r + 1 < xs.length → fin (fun r => xs.getD r 0) xs.length (n + 1) r = n + 1 ∧ fin (fun r => xs.getD r 0) xs.length n r = n := by
        intro r hr; unfold fin; rw [if_neg hr, if_neg hr]; exact ⟨rfl, rfl⟩
      refine ⟨fun h => by omega, ih.zero, fun r hr => ?_, fun r hr => ?_, fun r hr i h1 h2 => ?_, ih.diff, by omega⟩
      · by_cases h0 : r + 1 < xs.length
        · rw [f1 r h0]; exact ih.pos r hr
        · have := ih.pos r hr; rw [(f2 r h0).2] at this; rw [(f2 r h0).1]; omega
      · by_cases h0 : r + 1 < xs.length
        · rw [f1 r h0]; have := ih.le r hr; omega
        · rw [(f2 r h0).1]; omega
      · by_cases h0 : r + 1 < xs.length
        · rw [f1 r h0] at h2; exact ih.same r hr i h1 h2
        · rw [(f2 r h0).1] at h2
          have hp := ih.pos r hr
          rw [(f2 r h0).2] at hp
          have hp' : xs.getD r 0 < n := hp
          by_cases hin : i = n
          · rw [hin, hL]
            exact ih.same r hr (n - 1) (by show xs.getD r 0 ≤ _; omega) (by rw [(f2 r h0).2]; omega)
          · exact ih.same r hr i h1 (by rw [(f2 r h0).2]; omega)
end Go.Proofs.Ybulkefbu.C
