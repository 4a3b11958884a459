import Derived.Test.Qxb6002705aClone
/- fits and ZZFits. -/
namespace Go.Proofs.Qxb6002705a
open Go.RowKit

theorem fits_ne (g W c n : Nat) (hn : n ≤ 1024) (_hW : W ≤ 1000) (h : ¬ W = cd n) (w : World) :
    Calls Try.prog 32 #[.slice (some ⟨g, 0, none⟩) W c, .int .i64 n] w fun e w' => e = .returned (.bool false) ∧ ∃ k, w' = w.drewN k := by
  have hc := cd_le n
  have hs := fun w => setWords_any n hn w
  generalize cd n = V at *
  have Hs : Hid _ := hs
  clear hs
  go_enter Try.func32, Try.ntmps32
  go_wp2_with (first | (go_at_call 41; refine (Hs.out _).mono ?_; rintro e w' ⟨rfl, k, rfl⟩) | go_in)
  go_ret
  exact ⟨rfl, _, rfl⟩

theorem fits_even (g W c n : Nat) (hn : n ≤ 1024) (h : W = cd n) (hz : n % 64 = 0) (w : World) :
    Calls Try.prog 32 #[.slice (some ⟨g, 0, none⟩) W c, .int .i64 n] w fun e w' => e = .returned (.bool true) ∧ ∃ k, w' = w.drewN k := by
  have hc := cd_le n
  have hs := fun w => setWords_any n hn w
  rw [← h] at hs hc
  have Hs : Hid _ := hs
  clear hs h
  have hzb : ((n : Int) % 64 == 0) = true := by simp; omega
  go_enter Try.func32, Try.ntmps32
  go_wp2_with (first | (go_at_call 41; refine (Hs.out _).mono ?_; rintro e w' ⟨rfl, k, rfl⟩) | go_in)
  go_ret
  exact ⟨rfl, _, rfl⟩

theorem fits_odd (g W c n : Nat) (x : Int) (hn : n ≤ 1024) (h : W = cd n) (hz : ¬ n % 64 = 0) (w : World) (hcell : w.cell? ⟨g, W - 1, none⟩ = some (.int .u64 x)) :
    Calls Try.prog 32 #[.slice (some ⟨g, 0, none⟩) W c, .int .i64 n] w fun e w' => e = .returned (.bool (x / 2 ^ (n % 64) == 0)) ∧ ∃ k, w' = w.drewN k := by
  have hc := cd_le n
  have hs := fun w => setWords_any n hn w
  rw [← h] at hs hc
  have Hs : Hid _ := hs
  clear hs h
  have hzb : ((n : Int) % 64 == 0) = false := by simp; omega
  go_enter Try.func32, Try.ntmps32
  go_wp2_with (first | (go_at_call 41; refine (Hs.out _).mono ?_; rintro e w' ⟨rfl, k, rfl⟩) | go_in)
  go_ret
  exact ⟨rfl, _, rfl⟩
end Go.Proofs.Qxb6002705a
