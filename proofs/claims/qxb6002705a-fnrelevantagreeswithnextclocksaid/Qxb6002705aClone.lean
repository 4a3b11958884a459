import Derived.Test.Qxb6002705aMatrix
/- The three clones. -/
namespace Go.Proofs.Qxb6002705a
open Go.RowKit

/-- A list of the values of f below m. -/
def tab (f : Nat → Value) (m : Nat) : List Value := (List.range m).map f
theorem tab_len (f : Nat → Value) (m : Nat) : (tab f m).length = m := by simp [tab]
theorem tab_get {f : Nat → Value} {m j : Nat} {v : Value} (h : (tab f m)[j]? = some v) : j < m ∧ v = f j := by
  unfold tab at h
  rw [List.getElem?_map] at h
  by_cases hj : j < m
  · simp [hj] at h
    exact ⟨hj, h.symm⟩
  · simp [hj] at h
theorem tab_one {f : Nat → Value} {m : Nat} (h1 : ∀ j, j < m → (f j).oneCell' = true) : ∀ v ∈ tab f m, v.oneCell' = true := by
  intro v hv
  obtain ⟨j, hj, rfl⟩ := List.mem_map.1 hv
  exact h1 j (by simpa using hj)
theorem cloneWords_any (b off m c : Nat) (f : Nat → Value) (h1 : ∀ j, j < m → (f j).oneCell' = true) (hm : m ≤ 1000000) (w : World)
    (hcell : ∀ j, j < m → w.cell? ⟨b, off + j, none⟩ = some (f j)) :
    Calls Try.prog 31 #[.slice (some ⟨b, off, none⟩) m c] w fun e w' => e = .returned (.slice (some ⟨w.heap.size, 0, none⟩) m m) ∧ w'.rowIs w.heap.size 50 m f ∧ Below w.heap.size w w' ∧ w'.heap.size = w.heap.size + 1 := by
  have hmk := fun w => run_make_row' (P := Try.prog) 42 50 (.int .u64 0) 8 Try.underlying42 info50 rfl .i64 .i64 m (by omega) (by omega) w
  have hnil := fun w => Lib.run_eql_slice_nil (P := Try.prog) w 42 50 (some ⟨b, off, none⟩) m c 0 0 Try.underlying42
  have hcp : ∀ j v, (tab f m)[j]? = some v → (w.alloc (.cells (madeCells #[.int .u64 0] m) 50)).cell? ((⟨b, off, none⟩ : Addr).add j) = some v := by
    intro j v hv
    obtain ⟨hj, rfl⟩ := tab_get hv
    have hc := hcell j hj
    rw [Addr.add_lit, World.cell?_alloc_past _ _ _ (World.block_lt_of_cell? w _ hc)]
    exact hc
  clear hcell
  have hcopy := run_copy_row (P := Try.prog) (w.alloc (.cells (madeCells #[.int .u64 0] m) 50)) 42 42 3 50 w.heap.size 0 m m ⟨b, off, none⟩ m c (madeCells #[.int .u64 0] m) 50 (tab f m) Try.underlying42 (by kernel_rfl) (heap_alloc_new w _) (by rw [tab_len]; exact (Nat.min_self m).symm) hcp (by rw [tab_len, size_madeCells]; omega) (tab_one h1)
  clear hcp
  obtain ⟨cs, hcs⟩ : ∃ cs, cs = (List.take 0 (madeCells #[.int .u64 0] m).toList ++ tab f m ++ List.drop (0 + (tab f m).length) (madeCells #[.int .u64 0] m).toList).toArray := ⟨_, rfl⟩
  rw [← hcs] at hcopy
  have hcs' : cs = (tab f m).toArray := by rw [hcs]; simp [tab_len, toList_madeCells_one]
  have Hcs : Hid _ := hcs'
  clear hcs hcs'
  go_enter Try.func31, Try.ntmps31
  go_wp2
  go_ret
  refine ⟨rfl, ?_, below_setRow ((Below.refl _ _).alloc (Nat.le_refl _) _) (Nat.le_refl _) _, ?_⟩
  · rw [Hcs.out]
    refine ⟨_, setRow_heap _ _ _ _ _ _ (heap_alloc_new w _), by simp [tab_len], fun i hi => ?_⟩
    simp [tab, hi]
  · simp [World.setRow]

theorem cloneInts_any (b off m c : Nat) (f : Nat → Value) (h1 : ∀ j, j < m → (f j).oneCell' = true) (hm : m ≤ 1000000) (w : World)
    (hcell : ∀ j, j < m → w.cell? ⟨b, off + j, none⟩ = some (f j)) :
    Calls Try.prog 12 #[.slice (some ⟨b, off, none⟩) m c] w fun e w' => e = .returned (.slice (some ⟨w.heap.size, 0, none⟩) m m) ∧ w'.rowIs w.heap.size 3 m f ∧ Below w.heap.size w w' ∧ w'.heap.size = w.heap.size + 1 := by
  have hmk := fun w => run_make_row' (P := Try.prog) 22 3 (.int .i64 0) 8 Try.underlying22 info3 rfl .i64 .i64 m (by omega) (by omega) w
  have hnil := fun w => Lib.run_eql_slice_nil (P := Try.prog) w 22 3 (some ⟨b, off, none⟩) m c 0 0 Try.underlying22
  have hcp : ∀ j v, (tab f m)[j]? = some v → (w.alloc (.cells (madeCells #[.int .i64 0] m) 3)).cell? ((⟨b, off, none⟩ : Addr).add j) = some v := by
    intro j v hv
    obtain ⟨hj, rfl⟩ := tab_get hv
    have hc := hcell j hj
    rw [Addr.add_lit, World.cell?_alloc_past _ _ _ (World.block_lt_of_cell? w _ hc)]
    exact hc
  clear hcell
  have hcopy := run_copy_row (P := Try.prog) (w.alloc (.cells (madeCells #[.int .i64 0] m) 3)) 22 22 3 3 w.heap.size 0 m m ⟨b, off, none⟩ m c (madeCells #[.int .i64 0] m) 3 (tab f m) Try.underlying22 (by kernel_rfl) (heap_alloc_new w _) (by rw [tab_len]; exact (Nat.min_self m).symm) hcp (by rw [tab_len, size_madeCells]; omega) (tab_one h1)
  clear hcp
  obtain ⟨cs, hcs⟩ : ∃ cs, cs = (List.take 0 (madeCells #[.int .i64 0] m).toList ++ tab f m ++ List.drop (0 + (tab f m).length) (madeCells #[.int .i64 0] m).toList).toArray := ⟨_, rfl⟩
  rw [← hcs] at hcopy
  have hcs' : cs = (tab f m).toArray := by rw [hcs]; simp [tab_len, toList_madeCells_one]
  have Hcs : Hid _ := hcs'
  clear hcs hcs'
  go_enter Try.func12, Try.ntmps12
  go_wp2
  go_ret
  refine ⟨rfl, ?_, below_setRow ((Below.refl _ _).alloc (Nat.le_refl _) _) (Nat.le_refl _) _, ?_⟩
  · rw [Hcs.out]
    refine ⟨_, setRow_heap _ _ _ _ _ _ (heap_alloc_new w _), by simp [tab_len], fun i hi => ?_⟩
    simp [tab, hi]
  · simp [World.setRow]

theorem cloneBools_any (b off m c : Nat) (f : Nat → Value) (h1 : ∀ j, j < m → (f j).oneCell' = true) (hm : m ≤ 1000000) (w : World)
    (hcell : ∀ j, j < m → w.cell? ⟨b, off + j, none⟩ = some (f j)) :
    Calls Try.prog 19 #[.slice (some ⟨b, off, none⟩) m c] w fun e w' => e = .returned (.slice (some ⟨w.heap.size, 0, none⟩) m m) ∧ w'.rowIs w.heap.size 4 m f ∧ Below w.heap.size w w' ∧ w'.heap.size = w.heap.size + 1 := by
  have hmk := fun w => run_make_row' (P := Try.prog) 29 4 (.bool false) 1 Try.underlying29 info4 rfl .i64 .i64 m (by omega) (by omega) w
  have hnil := fun w => Lib.run_eql_slice_nil (P := Try.prog) w 29 4 (some ⟨b, off, none⟩) m c 0 0 Try.underlying29
  have hcp : ∀ j v, (tab f m)[j]? = some v → (w.alloc (.cells (madeCells #[.bool false] m) 4)).cell? ((⟨b, off, none⟩ : Addr).add j) = some v := by
    intro j v hv
    obtain ⟨hj, rfl⟩ := tab_get hv
    have hc := hcell j hj
    rw [Addr.add_lit, World.cell?_alloc_past _ _ _ (World.block_lt_of_cell? w _ hc)]
    exact hc
  clear hcell
  have hcopy := run_copy_row (P := Try.prog) (w.alloc (.cells (madeCells #[.bool false] m) 4)) 29 29 3 4 w.heap.size 0 m m ⟨b, off, none⟩ m c (madeCells #[.bool false] m) 4 (tab f m) Try.underlying29 (by kernel_rfl) (heap_alloc_new w _) (by rw [tab_len]; exact (Nat.min_self m).symm) hcp (by rw [tab_len, size_madeCells]; omega) (tab_one h1)
  clear hcp
  obtain ⟨cs, hcs⟩ : ∃ cs, cs = (List.take 0 (madeCells #[.bool false] m).toList ++ tab f m ++ List.drop (0 + (tab f m).length) (madeCells #[.bool false] m).toList).toArray := ⟨_, rfl⟩
  rw [← hcs] at hcopy
  have hcs' : cs = (tab f m).toArray := by rw [hcs]; simp [tab_len, toList_madeCells_one]
  have Hcs : Hid _ := hcs'
  clear hcs hcs'
  go_enter Try.func19, Try.ntmps19
  go_wp2
  go_ret
  refine ⟨rfl, ?_, below_setRow ((Below.refl _ _).alloc (Nat.le_refl _) _) (Nat.le_refl _) _, ?_⟩
  · rw [Hcs.out]
    refine ⟨_, setRow_heap _ _ _ _ _ _ (heap_alloc_new w _), by simp [tab_len], fun i hi => ?_⟩
    simp [tab, hi]
  · simp [World.setRow]

end Go.Proofs.Qxb6002705a
