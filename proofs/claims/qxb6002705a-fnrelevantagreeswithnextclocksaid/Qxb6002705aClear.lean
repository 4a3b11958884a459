import Derived.Test.Qxb6002705aMatrix
/- What a call leaves of old memory: all but the blocks in S. rowMask, clearColumn, keepsMatrix. -/
namespace Go.Proofs.Qxb6002705a
open Go.RowKit

/-- w' is w with new blocks, and with writes to old blocks in S alone. -/
structure Keeps (S : Nat → Prop) (w w' : World) : Prop where
  os : w'.os = w.os
  tape : w'.tape = w.tape
  output : w'.output = w.output
  size : w.heap.size ≤ w'.heap.size
  block : ∀ k, k < w.heap.size → ¬ S k → w'.heap[k]? = w.heap[k]?

section
variable {S : Nat → Prop} {a w w' : World}
theorem Keeps.refl (S : Nat → Prop) (w : World) : Keeps S w w := ⟨rfl, rfl, rfl, Nat.le_refl _, fun _ _ _ => rfl⟩
theorem Keeps.trans (h : Keeps S a w) (k : Keeps S w w') : Keeps S a w' :=
  ⟨k.os.trans h.os, k.tape.trans h.tape, k.output.trans h.output, Nat.le_trans h.size k.size, fun i hi hs => (k.block i (Nat.lt_of_lt_of_le hi h.size) hs).trans (h.block i hi hs)⟩
theorem Keeps.mono {T : Nat → Prop} (h : Keeps S a w) (hT : ∀ k, S k → T k) : Keeps T a w := ⟨h.os, h.tape, h.output, h.size, fun i hi hs => h.block i hi (fun q => hs (hT i q))⟩
theorem Keeps.alloc (h : Keeps S a w) (o : Obj) : Keeps S a (w.alloc o) :=
  h.trans ⟨rfl, rfl, rfl, by simp, fun k hk _ => Below.heap_alloc _ _ _ hk⟩
theorem Keeps.setCell (h : Keeps S a w) {p : Addr} (hp : S p.block) (u : Value) : Keeps S a (w.setCell p u) :=
  h.trans ⟨rfl, rfl, rfl, by simp [World.setCell], fun k _ hs => Below.heap_setCell _ _ _ _ (fun e => hs (e ▸ hp))⟩
theorem Keeps.new (h : Keeps S a w) {p : Addr} (hp : a.heap.size ≤ p.block) (u : Value) : Keeps S a (w.setCell p u) :=
  ⟨h.os, h.tape, h.output, Nat.le_trans h.size (by simp [World.setCell]), fun k hk hs => (Below.heap_setCell _ _ _ _ (by omega)).trans (h.block k hk hs)⟩
theorem Keeps.drew (h : Keeps S a w) : Keeps S a w.drew := ⟨h.os, h.tape, h.output, h.size, h.block⟩
theorem Keeps.drewN (h : Keeps S a w) (k : Nat) : Keeps S a (w.drewN k) := ⟨h.os, h.tape, h.output, h.size, h.block⟩
theorem Keeps.below {B : Nat} (h : Keeps S a w) (hB : B ≤ a.heap.size) (hS : ∀ k, k < B → ¬ S k) : Below B a w :=
  ⟨h.os, h.tape, h.output, h.size, fun k hk => h.block k (by omega) (hS k hk)⟩
theorem Keeps.row (h : Keeps S a w) {g : Nat} {e : TypeId} {n : Nat} {f : Nat → Value} (hr : a.rowIs g e n f) (hg : ¬ S g) : w.rowIs g e n f := hr.of_block (h.block g hr.lt hg)
theorem Keeps.cells (h : Keeps S a w) {g : Nat} {o : Obj} (hr : a.heap[g]? = some o) (hg : ¬ S g) : w.heap[g]? = some o := (h.block g (lt_of_block hr) hg).trans hr
end

/-- The mask of one row in word j. -/
def maskW (s j : Nat) : Int := if s / 64 = j then 2 ^ (s % 64) else 0

theorem or_zero_pow (s : Nat) : bits .or .u64 0 (IntKind.u64.wrap (2 ^ (s % 64))) = 2 ^ (s % 64) := by
  obtain ⟨h1, h2⟩ := pow_bd (s % 64) (by omega)
  have h3 : IntKind.u64.wrap (2 ^ (s % 64)) = 2 ^ (s % 64) := by rw [IntKind.wrap_u64]; omega
  rw [h3, u64_or 0 ((2 : Int) ^ (s % 64)) (by omega) (by omega) (by omega) (by omega)]
  simp
  omega

theorem rowMask_any (b s j : Nat) (hs : s ≤ 1024) (w : World) (hc : w.cell? ⟨b, 0, none⟩ = some (.int .i64 s)) :
    Calls Try.prog 43 #[.int .i64 j, .slice (some ⟨b, 0, none⟩) 1 1] w fun e w' => e = .returned (.int .u64 (maskW s j)) ∧ w' = w := by
  by_cases h : s / 64 = j
  · have hb : ((s : Int) / 64 == (j : Int)) = true := by simp; omega
    have HH : Hid (maskW s j = 2 ^ (s % 64)) := by unfold maskW; exact if_pos h
    clear h
    go_enter Try.func43, Try.ntmps43
    go_wp2
    refine wp_loop_rounds 2 ?_
    rw [rounds_succ]
    go_wp2
    rw [rounds_succ]
    go_wp2
    go_ret
    exact ⟨ret_int ((or_zero_pow s).trans HH.out.symm), rfl⟩
  · have hb : ((s : Int) / 64 == (j : Int)) = false := by simp; omega
    have HH : Hid (maskW s j = 0) := by unfold maskW; exact if_neg h
    clear h
    go_enter Try.func43, Try.ntmps43
    go_wp2
    refine wp_loop_rounds 2 ?_
    rw [rounds_succ]
    go_wp2
    rw [rounds_succ]
    go_wp2
    go_ret
    exact ⟨ret_int HH.out.symm, rfl⟩

/-- The bits behind j rounds of clearColumn. -/
def clr (mat : Nat → Int) (s p j i : Nat) : Int := if p ≤ i ∧ i < p + j then bits .and .u64 (mat i) (maskW s (i - p)) else mat i

theorem clr_zero (mat : Nat → Int) (s p i : Nat) : Value.int .u64 (mat i) = .int .u64 (clr mat s p 0 i) := by
  unfold clr
  rw [if_neg (by omega)]
theorem clr_at (mat : Nat → Int) (s p j : Nat) : clr mat s p j (p + j) = mat (p + j) := by
  unfold clr
  rw [if_neg (by omega)]
theorem clr_step (mat : Nat → Int) (s p j i : Nat) : (if i = p + j then Value.int .u64 (bits .and .u64 (mat (p + j)) (maskW s j)) else .int .u64 (clr mat s p j i)) = .int .u64 (clr mat s p (j + 1) i) := by
  by_cases h : i = p + j
  · subst h
    rw [if_pos rfl]
    unfold clr
    rw [if_pos (by omega), show p + j - p = j by omega]
  · rw [if_neg h]
    unfold clr
    by_cases h2 : p ≤ i ∧ i < p + j
    · rw [if_pos h2, if_pos (by omega)]
    · rw [if_neg h2, if_neg (by omega)]

set_option maxHeartbeats 1000000 in
theorem clearColumn_any (G W L c p b s : Nat) (mat : Nat → Int) (hp : c * W = p) (hL : p + W ≤ L) (hL2 : L ≤ 1000000) (hW : W ≤ 1000) (hW1 : 1 ≤ W) (hc : c ≤ 1024) (hs : s ≤ 1024) (w : World)
    (hrow : w.rowIs G 50 L (fun i => .int .u64 (mat i))) (hb : w.cell? ⟨b, 0, none⟩ = some (.int .i64 s)) (hbG : b ≠ G) :
    Calls Try.prog 37 #[.agg #[.int .i64 W, .slice (some ⟨G, 0, none⟩) L L], .int .i64 c, .slice (some ⟨b, 0, none⟩) 1 1] w fun e w' =>
      e = .returned (.tuple #[]) ∧ w'.rowIs G 50 L (fun i => .int .u64 (clr mat s p W i)) ∧ Keeps (· = G) w w' := by
  have HP : Hid _ := hp
  clear hp
  go_enter Try.func37, Try.ntmps37
  go_wp2_with (go_at_call 42; refine (column_any _ _ _ _ p HP.out (by omega) (by omega) (by omega) (by omega) (by omega) _).mono ?_; rintro e w' ⟨rfl, rfl⟩)
  go_loopw [13] (fun i wr => ∃ j : Nat, j ≤ W ∧ i = .int .i64 j ∧ wr.rowIs G 50 L (fun i => .int .u64 (clr mat s p j i)) ∧ Keeps (· = G) w wr) (fun i _ => W - (intOf i).toNat)
  case atStart => exact ⟨0, Nat.zero_le _, rfl, ((hrow.alloc _).alloc _).congr (fun i _ => clr_zero mat s p i), ((Keeps.refl _ _).alloc _).alloc _⟩
  case round =>
    obtain ⟨j, hj, rfl, hr, hK⟩ := hrel
    by_cases hlt : j < W
    · have hcb : wr.cell? ⟨b, 0, none⟩ = some (.int .i64 s) := (World.cell?_of_block (hK.block b (World.block_lt_of_cell? w _ hb) hbG)).trans hb
      have hcw := hr.cell (i := p + j) (by omega)
      rw [clr_at] at hcw
      have hfw := hr.frozen (p + j)
      have hi0 : (0 : Int) ≤ (j : Int) := by omega
      have hi1 : (j : Int) < (W : Int) := by omega
      go_wp2
      go_region_with (go_at_call 43; refine (rowMask_any b s j hs wr.drew hcb).mono ?_; rintro e w' ⟨rfl, rfl⟩)
      all_goals
        go_wp2
        go_roundw
        case rel => exact ⟨j + 1, by omega, by go_num, ((hr.set (p + j) _).congr (fun i _ => clr_step mat s p j i)).drew, (hK.setCell rfl _).drew⟩
        case measure => simp [intOf]; omega
    · obtain rfl : j = W := by omega
      go_wp2
      go_end0
      exact ⟨rfl, hr, hK⟩

theorem keepsMatrix_any (k : Int) (w : World) :
    Calls Try.prog 36 #[.int .i64 k] w fun e w' => e = .returned (.bool (decide (k = 2 ∨ k = 3))) ∧ w' = w := by
  by_cases h2 : k = 2
  · subst h2
    go_enter Try.func36, Try.ntmps36
    go_wp2
    go_ret
    exact ⟨rfl, rfl⟩
  · have t2 : (k == 2) = false := by simp; exact h2
    by_cases h3 : k = 3
    · subst h3
      go_enter Try.func36, Try.ntmps36
      go_wp2
      go_ret
      exact ⟨rfl, rfl⟩
    · have t3 : (k == 3) = false := by simp; exact h3
      have e : decide (k = 2 ∨ k = 3) = false := by simp [h2, h3]
      rw [e]
      clear h2 h3 e
      go_enter Try.func36, Try.ntmps36
      go_wp2
      go_ret
      exact ⟨rfl, rfl⟩
end Go.Proofs.Qxb6002705a
