import Derived.Test.Qxb6002705aClear
/- The tracker: its block; ZZTracker and the readers. -/
namespace Go.Proofs.Qxb6002705a
open Go.RowKit

/-- The block of a tracker. -/
def tkO (k s : Int) (C I n W G L : Nat) : Obj :=
  .cells #[.int .i64 k, .int .i64 s, .slice (some ⟨C, 0, none⟩) n n, .slice (some ⟨I, 0, none⟩) n n, .int .i64 W, .slice (some ⟨G, 0, none⟩) L L] 59 (0, 0)

theorem zzTracker_any (k s : Int) (C I n L : Nat) (hn : n ≤ 1024) (hL : n * cd n = L) (w : World) :
    Calls Try.prog 20 #[.int .i64 k, .int .i64 s, .slice (some ⟨C, 0, none⟩) n n, .slice (some ⟨I, 0, none⟩) n n] w fun e w' =>
      ∃ t G, w.heap.size ≤ G ∧ w.heap.size ≤ t ∧ e = .returned (.pointer (some ⟨t, 0, none⟩)) ∧ w'.heap[t]? = some (tkO k s C I n (cd n) G L) ∧
       w'.rowIs G 50 L (fun i => .int .u64 (word n (i % cd n))) ∧ Below w.heap.size w w' := by
  go_enter Try.func20, Try.ntmps20
  go_wp2_with (go_at_call 35; refine (newBoolMatrix_any n L hL hn _).mono ?_; rintro e w' ⟨g, hg, rfl, hrow, hB⟩)
  go_ret
  exact ⟨w'.heap.size, g, hg, hB.size, rfl, heap_alloc_new _ _, hrow.alloc _, hB.alloc hB.size _⟩

theorem tk0 {w : World} {t C I n W G L : Nat} {k s : Int} (h : w.heap[t]? = some (tkO k s C I n W G L)) : w.cell? ⟨t, 0, none⟩ = some (.int .i64 k) := by simp [World.cell?, h, tkO]
theorem tk1 {w : World} {t C I n W G L : Nat} {k s : Int} (h : w.heap[t]? = some (tkO k s C I n W G L)) : w.cell? ⟨t, 1, none⟩ = some (.int .i64 s) := by simp [World.cell?, h, tkO]
theorem tk2 {w : World} {t C I n W G L : Nat} {k s : Int} (h : w.heap[t]? = some (tkO k s C I n W G L)) : w.cell? ⟨t, 2, none⟩ = some (.slice (some ⟨C, 0, none⟩) n n) := by simp [World.cell?, h, tkO]
theorem tk3 {w : World} {t C I n W G L : Nat} {k s : Int} (h : w.heap[t]? = some (tkO k s C I n W G L)) : w.cell? ⟨t, 3, none⟩ = some (.slice (some ⟨I, 0, none⟩) n n) := by simp [World.cell?, h, tkO]
theorem tk4 {w : World} {t C I n W G L : Nat} {k s : Int} (h : w.heap[t]? = some (tkO k s C I n W G L)) : w.cell? ⟨t, 4, none⟩ = some (.int .i64 W) := by simp [World.cell?, h, tkO]
theorem tk5 {w : World} {t C I n W G L : Nat} {k s : Int} (h : w.heap[t]? = some (tkO k s C I n W G L)) : w.cell? ⟨t, 5, none⟩ = some (.slice (some ⟨G, 0, none⟩) L L) := by simp [World.cell?, h, tkO]

theorem known_any (t C I n W G L : Nat) (k s : Int) (w : World) (h : w.heap[t]? = some (tkO k s C I n W G L)) :
    Calls Try.prog 28 #[.pointer (some ⟨t, 0, none⟩)] w fun e w' => e = .returned (.tuple #[.int .i64 W, .slice (some ⟨G, 0, none⟩) L L]) ∧ ∃ m, w' = w.drewN m := by
  have h4 := tk4 h
  have h5 := tk5 h
  clear h
  go_enter Try.func28, Try.ntmps28
  go_wp2
  go_quiet (fail)
  go_wp2
  go_ret2
  exact ⟨rfl, _, rfl⟩
end Go.Proofs.Qxb6002705a
