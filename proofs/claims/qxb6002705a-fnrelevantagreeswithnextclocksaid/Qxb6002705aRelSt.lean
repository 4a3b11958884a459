import Derived.Test.Qxb6002705aTracker
/- Relevant. -/
namespace Go.Proofs.Qxb6002705a
open Go.RowKit

theorem info36 : (Try.prog.info? 36).map (fun i => (i.zero, i.size, i.bytes)) = some (some (.agg #[.int .i64 0, .int .i64 0]), 2, 16) := by kernel_rfl

theorem row_ne {w : World} {a b : Nat} {e1 e2 : TypeId} {n m : Nat} {f g : Nat → Value} (h : w.rowIs a e1 n f) (k : w.rowIs b e2 m g) (he : e1 ≠ e2) : a ≠ b := by
  intro hab
  subst hab
  obtain ⟨c, hc, _⟩ := h
  obtain ⟨d, hd, _⟩ := k
  rw [hc] at hd
  simp at hd
  exact he hd.2

/-- The events that Relevant gathers out of the first m entries, flattened; their number. -/
def evs (clk : Nat → Int) (imm : Nat → Bool) : Nat → List Value
  | 0 => []
  | m + 1 => evs clk imm m ++ (if imm m then [.int .i64 m, .int .i64 (clk m)] else [])
def cnt (imm : Nat → Bool) : Nat → Nat
  | 0 => 0
  | m + 1 => cnt imm m + (if imm m then 1 else 0)
theorem cnt_le (imm : Nat → Bool) (m : Nat) : cnt imm m ≤ m := by
  induction m with
  | zero => exact Nat.le_refl _
  | succ m ih => unfold cnt; split <;> omega
theorem evs_hit {clk : Nat → Int} {imm : Nat → Bool} {m : Nat} (h : imm m = true) : evs clk imm (m + 1) = evs clk imm m ++ [.int .i64 m, .int .i64 (clk m)] ∧ cnt imm (m + 1) = cnt imm m + 1 := by
  simp [evs, cnt, h]
theorem evs_miss {clk : Nat → Int} {imm : Nat → Bool} {m : Nat} (h : imm m = false) : evs clk imm (m + 1) = evs clk imm m ∧ cnt imm (m + 1) = cnt imm m := by
  simp [evs, cnt, h]

/-- The world inside Relevant. -/
structure RSt (w : World) (t C I n W G L : Nat) (k : Int) (s : Nat) (f1 f2 f3 : Nat → Value) (pv : Value) (m : Nat) (xs : List Value) (wr : World) : Prop where
  lt : C < w.heap.size ∧ I < w.heap.size ∧ G < w.heap.size ∧ t < w.heap.size
  tk : wr.heap[t]? = some (tkO k s C I n W G L)
  c : wr.rowIs C 3 n f1
  i : wr.rowIs I 4 n f2
  g : wr.rowIs G 50 L f3
  ne : C ≠ I ∧ C ≠ G ∧ I ≠ G ∧ t ≠ C ∧ t ≠ I ∧ t ≠ G
  r : wr.heap[w.heap.size]? = some (.cells #[.int .i64 0, .int .i64 0] 36 (0, 0))
  own : wr.ownsRow (w.heap.size + 1) 36 2 pv m xs
  kp : Keeps (fun b => b = C ∨ b = I ∨ b = G) w wr

section
variable {w wr : World} {t C I n W G L : Nat} {k : Int} {s : Nat} {f1 f2 f3 : Nat → Value} {pv : Value} {m : Nat} {xs : List Value}
theorem RSt.alloc (h : RSt w t C I n W G L k s f1 f2 f3 pv m xs wr) (o : Obj) : RSt w t C I n W G L k s f1 f2 f3 pv m xs (wr.alloc o) := by
  have hr := lt_of_block h.r
  exact ⟨h.lt, by rw [Below.heap_alloc _ _ _ (lt_of_block h.tk)]; exact h.tk, h.c.alloc o, h.i.alloc o, h.g.alloc o, h.ne, by rw [Below.heap_alloc _ _ _ hr]; exact h.r, h.own.alloc o, h.kp.alloc o⟩
theorem RSt.drew (h : RSt w t C I n W G L k s f1 f2 f3 pv m xs wr) : RSt w t C I n W G L k s f1 f2 f3 pv m xs wr.drew :=
  ⟨h.lt, h.tk, h.c, h.i, h.g, h.ne, h.r, h.own.drew, h.kp.drew⟩
theorem RSt.drewN (h : RSt w t C I n W G L k s f1 f2 f3 pv m xs wr) (q : Nat) : RSt w t C I n W G L k s f1 f2 f3 pv m xs (wr.drewN q) :=
  ⟨h.lt, h.tk, h.c, h.i, h.g, h.ne, h.r, h.own, h.kp.drewN q⟩
theorem RSt.setC (h : RSt w t C I n W G L k s f1 f2 f3 pv m xs wr) (q : Nat) (v : Value) :
    RSt w t C I n W G L k s (fun j => if j = q then v else f1 j) f2 f3 pv m xs (wr.setCell ⟨C, q, none⟩ v) := by
  obtain ⟨l1, l2, l3, l4⟩ := h.lt
  obtain ⟨n1, n2, n3, n4, n5, n6⟩ := h.ne
  exact ⟨h.lt, by rw [Below.heap_setCell _ _ _ _ n4]; exact h.tk, h.c.set q v, h.i.setOther n1.symm v, h.g.setOther n2.symm v, h.ne,
    by rw [Below.heap_setCell _ _ _ _ (by simp; omega)]; exact h.r, ownsRow_setCell_below h.own (by simp; omega) v, h.kp.setCell (Or.inl rfl) v⟩
theorem RSt.setI (h : RSt w t C I n W G L k s f1 f2 f3 pv m xs wr) (q : Nat) (v : Value) :
    RSt w t C I n W G L k s f1 (fun j => if j = q then v else f2 j) f3 pv m xs (wr.setCell ⟨I, q, none⟩ v) := by
  obtain ⟨l1, l2, l3, l4⟩ := h.lt
  obtain ⟨n1, n2, n3, n4, n5, n6⟩ := h.ne
  exact ⟨h.lt, by rw [Below.heap_setCell _ _ _ _ n5]; exact h.tk, h.c.setOther n1 v, h.i.set q v, h.g.setOther n3.symm v, h.ne,
    by rw [Below.heap_setCell _ _ _ _ (by simp; omega)]; exact h.r, ownsRow_setCell_below h.own (by simp; omega) v, h.kp.setCell (Or.inr (Or.inl rfl)) v⟩
theorem RSt.congr {f1' f2' f3' : Nat → Value} (h : RSt w t C I n W G L k s f1 f2 f3 pv m xs wr) (e1 : ∀ j, j < n → f1 j = f1' j) (e2 : ∀ j, j < n → f2 j = f2' j) (e3 : ∀ j, j < L → f3 j = f3' j) :
    RSt w t C I n W G L k s f1' f2' f3' pv m xs wr :=
  ⟨h.lt, h.tk, h.c.congr e1, h.i.congr e2, h.g.congr e3, h.ne, h.r, h.own, h.kp⟩
end

theorem RSt.fillI {w : World} {t C I n W G L : Nat} {k : Int} {s : Nat} {f1 f3 : Nat → Value} {pv : Value} {m : Nat} {xs : List Value} (v : Value) :
    ∀ (q o : Nat) (wr : World) (f2 : Nat → Value), RSt w t C I n W G L k s f1 f2 f3 pv m xs wr →
      RSt w t C I n W G L k s f1 (fun j => if o ≤ j ∧ j < o + q then v else f2 j) f3 pv m xs (wr.setCells I o (List.replicate q v))
  | 0, o, wr, f2, h => by
    have := h.congr (f2' := fun j => if o ≤ j ∧ j < o + 0 then v else f2 j) (fun _ _ => rfl) (fun j _ => (if_neg (by omega)).symm) (fun _ _ => rfl)
    simpa [World.setCells] using this
  | q + 1, o, wr, f2, h => by
    have := RSt.fillI v q (o + 1) _ _ (h.setI o v)
    refine this.congr (fun _ _ => rfl) (fun j _ => ?_) (fun _ _ => rfl)
    by_cases h1 : o + 1 ≤ j ∧ j < o + 1 + q
    · rw [if_pos h1, if_pos (by omega)]
    · rw [if_neg h1]
      by_cases h2 : j = o
      · rw [if_pos h2, if_pos (by omega)]
      · rw [if_neg h2, if_neg (by omega)]

/-- What clearColumn leaves. -/
theorem RSt.col {w wr w2 : World} {t C I n W G L : Nat} {k : Int} {s : Nat} {f1 f2 f3 f3' : Nat → Value} {pv : Value} {m : Nat} {xs : List Value}
    (h : RSt w t C I n W G L k s f1 f2 f3 pv m xs wr) (hg : w2.rowIs G 50 L f3') (hk : Keeps (· = G) wr w2) : RSt w t C I n W G L k s f1 f2 f3' pv m xs w2 := by
  obtain ⟨l1, l2, l3, l4⟩ := h.lt
  obtain ⟨n1, n2, n3, n4, n5, n6⟩ := h.ne
  refine ⟨h.lt, hk.cells h.tk n6, hk.row h.c n2, hk.row h.i n3, hg, h.ne, hk.cells h.r (by omega), ?_, h.kp.trans (hk.mono (fun _ e => Or.inr (Or.inr e)))⟩
  refine h.own.kept (row := some G) ⟨hk.os, hk.tape, hk.output, hk.size, fun q hq hne => hk.block q hq (fun e => hne (by rw [e]))⟩ ?_
  rcases hb : pv.ownBlock with _ | q
  · exact Or.inl rfl
  · right
    have := (h.own.lt q hb).1
    intro e
    injection e with e
    omega

theorem RSt.start {w : World} {t C I n W G L : Nat} {k : Int} {s : Nat} {f1 f2 f3 : Nat → Value} (ht : w.heap[t]? = some (tkO k s C I n W G L)) (hC : w.rowIs C 3 n f1) (hI : w.rowIs I 4 n f2) (hG : w.rowIs G 50 L f3) :
    RSt w t C I n W G L k s f1 f2 f3 (.slice none 0 0) 0 [] (w.alloc (.cells #[.int .i64 0, .int .i64 0] 36)) := by
  have htr : w.rowIs t 59 6 (fun j => (#[Value.int .i64 k, .int .i64 s, .slice (some ⟨C, 0, none⟩) n n, .slice (some ⟨I, 0, none⟩) n n, .int .i64 W, .slice (some ⟨G, 0, none⟩) L L] : Array Value).getD j default) :=
    ⟨_, ht, rfl, fun i hi => by
      match i, hi with
      | 0, _ => rfl
      | 1, _ => rfl
      | 2, _ => rfl
      | 3, _ => rfl
      | 4, _ => rfl
      | 5, _ => rfl⟩
  refine ⟨⟨hC.lt, hI.lt, hG.lt, htr.lt⟩, by rw [Below.heap_alloc _ _ _ htr.lt]; exact ht, hC.alloc _, hI.alloc _, hG.alloc _, ⟨row_ne hC hI (by decide), row_ne hC hG (by decide), row_ne hI hG (by decide), row_ne htr hC (by decide), row_ne htr hI (by decide), row_ne htr hG (by decide)⟩,
    heap_alloc_new _ _, World.ownsRow_nil _ _ _ _, (Keeps.refl _ _).alloc _⟩
end Go.Proofs.Qxb6002705a
