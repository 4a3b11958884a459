import Derived.Test.Qxb6002705aMatrix
namespace Go.Proofs.Qxb6002705a
open Go.RowKit

theorem zzNew_any (n L : Nat) (hL : n * cd n = L) (hn : n ≤ 1024) (w : World) :
    Calls Try.prog 30 #[.int .i64 n] w fun e w' => ∃ g, w.heap.size ≤ g ∧ e = .returned (.tuple #[.int .i64 (cd n), .slice (some ⟨g, 0, none⟩) L L]) ∧
       w'.rowIs g 50 L (fun i => .int .u64 (word n (i % cd n))) ∧ Below w.heap.size w w' := by
  go_enter Try.func30, Try.ntmps30
  go_wp2_with (go_at_call 35; refine (newBoolMatrix_any n L hL hn _).mono ?_; rintro e w' ⟨g, hg, rfl, hrow, hB⟩)
  go_quiet (fail)
  go_wp2
  go_ret2
  exact ⟨g, hg, rfl, row_drewN (hrow.alloc _) _, bel_drewN (hB.alloc hB.size _) _⟩

theorem zzBit_any (g L W c r q : Nat) (x : Int) (hq : c * W = q) (hlt : q + r / 64 < L) (hL : L ≤ 1000000) (hr : r ≤ 100000) (w : World) 
   (hc : w.cell? ⟨g, q + r / 64, none⟩ = some (.int .u64 x)) (hx : 0 ≤ x ∧ x ≤ ones) : 
    Calls Try.prog 29 #[.slice (some ⟨g, 0, none⟩) L L, .int .i64 W, .int .i64 c, .int .i64 r] w fun e w' => e = .returned (.bool (x.toNat.testBit (r % 64))) ∧ w' = w := by
  have e1 : (c : Int) * (W : Int) = (q : Int) := by rw [← hq]; simp
  clear hq
  go_enter Try.func29, Try.ntmps29
  go_wp2
  go_ret
  exact ⟨ret_bool (bit_of x (r % 64) hx.1 hx.2), rfl⟩

/-- zzBit over the rows of a fresh matrix. -/
theorem zzBit_mat (n g L c r : Nat) (hn : n ≤ 1024) (hL : n * cd n = L) (hc : c < n) (hr : r < 64 * cd n) (w : World) (hrow : w.rowIs g 50 L (fun i => .int .u64 (word n (i % cd n)))) :
    Calls Try.prog 29 #[.slice (some ⟨g, 0, none⟩) L L, .int .i64 (cd n), .int .i64 c, .int .i64 r] w fun e w' => e = .returned (.bool (decide (r < n))) ∧ w' = w := by
  have hcd := cd_le n
  have hi : c * cd n + r / 64 < L := by
    have : (c + 1) * cd n ≤ L := by rw [← hL]; exact Nat.mul_le_mul_right _ hc
    rw [Nat.succ_mul] at this
    omega
  have hLb : L ≤ 17408 := by rw [← hL]; exact Nat.mul_le_mul hn (by omega : cd n ≤ 17)
  have hcell := hrow.cell hi
  simp only [idx_mod c (cd n) (r / 64) (by omega)] at hcell
  have := zzBit_any g L (cd n) c r (c * cd n) _ rfl hi (by omega) (by omega) w hcell (word_bd n (r / 64))
  rw [word_bit n r hr] at this
  exact this
end Go.Proofs.Qxb6002705a
