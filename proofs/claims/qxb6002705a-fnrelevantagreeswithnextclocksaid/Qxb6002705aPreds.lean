import Derived.Test.Qxb6002705aRelSt
/- The predecessors that Relevant gathers: the flagged entries, in order. -/
namespace Go.Proofs.Qxb6002705a
open Go.RowKit

/-- The flagged entries among the first m. -/
def flg (imm : Nat → Bool) : Nat → List Nat
  | 0 => []
  | m + 1 => flg imm m ++ (if imm m then [m] else [])
def pth (imm : Nat → Bool) (m i : Nat) : Nat := (flg imm m).getD i 0

theorem flg_len (imm : Nat → Bool) (m : Nat) : (flg imm m).length = cnt imm m := by
  induction m with
  | zero => rfl
  | succ m ih =>
    unfold flg cnt
    rw [List.length_append, ih]
    cases imm m <;> rfl

theorem evs_len (clk : Nat → Int) (imm : Nat → Bool) (m : Nat) : (evs clk imm m).length = cnt imm m * 2 := by
  induction m with
  | zero => rfl
  | succ m ih =>
    unfold evs cnt
    rw [List.length_append, ih]
    cases imm m
    · rfl
    · simp only [if_true, List.length_cons, List.length_nil]
      omega

theorem pth_old {imm : Nat → Bool} {m i : Nat} (h : i < cnt imm m) : pth imm (m + 1) i = pth imm m i := by
  unfold pth
  rw [flg, List.getD_eq_getElem?_getD, List.getD_eq_getElem?_getD, List.getElem?_append_left (by rw [flg_len]; exact h)]
theorem pth_new {imm : Nat → Bool} {m : Nat} (h : imm m = true) : pth imm (m + 1) (cnt imm m) = m := by
  unfold pth
  rw [flg, List.getD_eq_getElem?_getD, List.getElem?_append_right (by rw [flg_len]; exact Nat.le_refl _), flg_len, h]
  simp
theorem evs_old {clk : Nat → Int} {imm : Nat → Bool} {m q : Nat} (h : q < cnt imm m * 2) : (evs clk imm (m + 1))[q]? = (evs clk imm m)[q]? := by
  rw [evs, List.getElem?_append_left (by rw [evs_len]; exact h)]
theorem evs_new {clk : Nat → Int} {imm : Nat → Bool} {m : Nat} (h : imm m = true) :
    (evs clk imm (m + 1))[cnt imm m * 2]? = some (.int .i64 m) ∧ (evs clk imm (m + 1))[cnt imm m * 2 + 1]? = some (.int .i64 (clk m)) := by
  rw [evs, h]
  constructor
  · rw [List.getElem?_append_right (by rw [evs_len]; exact Nat.le_refl _), evs_len]
    simp
  · rw [List.getElem?_append_right (by rw [evs_len]; omega), evs_len]
    simp

theorem pth_facts (clk : Nat → Int) (imm : Nat → Bool) (m : Nat) : ∀ i, i < cnt imm m → pth imm m i < m ∧ imm (pth imm m i) = true ∧ (evs clk imm m)[i * 2]? = some (.int .i64 (pth imm m i)) ∧
    (evs clk imm m)[i * 2 + 1]? = some (.int .i64 (clk (pth imm m i))) ∧ (1 ≤ i → pth imm m (i - 1) < pth imm m i) := by
  induction m with
  | zero => intro i hi; exact absurd hi (Nat.not_lt_zero _)
  | succ m ih =>
    intro i hi
    cases him : imm m
    · rw [(evs_miss (clk := clk) him).2] at hi
      obtain ⟨h1, h2, h3, h4, h5⟩ := ih i hi
      rw [pth_old hi, evs_old (by omega), evs_old (by omega)]
      exact ⟨by omega, h2, h3, h4, fun h => by rw [pth_old (by omega)]; exact h5 h⟩
    · rw [(evs_hit (clk := clk) him).2] at hi
      by_cases c : i < cnt imm m
      · obtain ⟨h1, h2, h3, h4, h5⟩ := ih i c
        rw [pth_old c, evs_old (by omega), evs_old (by omega)]
        exact ⟨by omega, h2, h3, h4, fun h => by rw [pth_old (by omega)]; exact h5 h⟩
      · obtain rfl : i = cnt imm m := by omega
        rw [pth_new him]
        refine ⟨by omega, him, (evs_new him).1, (evs_new him).2, fun h => ?_⟩
        rw [pth_old (by omega)]
        exact (ih _ (by omega)).1

/-- The place of the entry before the i-th, as the law carries it. -/
def prevOf (imm : Nat → Bool) (n i : Nat) : Int := if i = 0 then -1 else (pth imm n (i - 1) : Int)

theorem own_events {w : World} {base : Nat} {v : Value} {m : Nat} {xs : List Value} (h : w.ownsRow base 36 2 v m xs) :
    (v = .slice none 0 0 ∧ m = 0) ∨ ∃ g cap, v = .slice (some ⟨g, 0, none⟩) m cap ∧ base ≤ g ∧ g < w.heap.size ∧ ∀ q u, xs[q]? = some u → w.cell? ⟨g, q, none⟩ = some u := by
  obtain ⟨h1, h2⟩ := h
  rcases h2 with h0 | ⟨g, cap, cur, hv, hg, hh, _, _, _, ht⟩
  · exact Or.inl h0
  · refine Or.inr ⟨g, cap, hv, hg, lt_of_block hh, fun q u hu => ?_⟩
    rw [← ht, List.getElem?_take] at hu
    split at hu
    · have : cur[q]? = some u := by rw [← Array.getElem?_toList]; exact hu
      simp [World.cell?, hh, this]
    · cases hu
end Go.Proofs.Qxb6002705a
