import Derived.Test.Qxb6002705aBit
import Derived.Test.Qxb6002705aFits
import Derived.Test.Qxb6002705aPlainFit
/- FnNewBoolMatrixColumnsFitExactlyN. -/
namespace Go.Proofs.Qxb6002705a
open Go.RowKit

/-- A column of a fresh matrix fits n, and does not fit n - 1. -/
theorem fitsA (g W n : Nat) (hn : n ≤ 1024) (h1 : 1 ≤ n) (hW : W = cd n) (w : World) (hrow : w.rowIs g 50 W (fun j => .int .u64 (word n j))) :
    Calls Try.prog 32 #[.slice (some ⟨g, 0, none⟩) W W, .int .i64 n] w fun e w' => e = .returned (.bool true) ∧ ∃ k, w' = w.drewN k := by
  have hc := cd_le n
  by_cases hz : n % 64 = 0
  · exact fits_even g W W n hn hW hz w
  · have := fits_odd g W W n _ hn hW hz w (hrow.cell (by omega))
    rw [hW, fit_self n hz] at this
    rw [hW]
    exact this

theorem fitsB (g W n : Nat) (hn : n ≤ 1024) (h1 : 1 ≤ n) (hW : W = cd n) (w : World) (hrow : w.rowIs g 50 W (fun j => .int .u64 (word n j))) :
    Calls Try.prog 32 #[.slice (some ⟨g, 0, none⟩) W W, .int .i64 (n - 1 : Nat)] w fun e w' => e = .returned (.bool false) ∧ ∃ k, w' = w.drewN k := by
  have hc := cd_le n
  by_cases hd : cd n = cd (n - 1)
  · have hz : ¬ (n - 1) % 64 = 0 := by unfold cd at hd; omega
    have := fits_odd g W W (n - 1) _ (by omega) (hW.trans hd) hz w (hrow.cell (by omega))
    rw [hW, fit_less n h1 hd] at this
    rw [hW]
    exact this
  · exact fits_ne g W W (n - 1) (by omega) (by omega) (by omega) w

theorem fitsC (g W n : Nat) (hn : n ≤ 1024) (hz : ¬ n % 64 = 0) (hW : W = cd n) (w : World) (hcell : w.cell? ⟨g, W - 1, none⟩ = some (.int .u64 (bits .or .u64 (word n (W - 1)) (IntKind.u64.wrap (2 ^ (n % 64)))))) :
    Calls Try.prog 32 #[.slice (some ⟨g, 0, none⟩) W W, .int .i64 n] w fun e w' => e = .returned (.bool false) ∧ ∃ k, w' = w.drewN k := by
  have := fits_odd g W W n _ hn hW hz w hcell
  rw [hW, fit_grown n hz] at this
  rw [hW]
  exact this

theorem col_neg (a0 : Int) (h : a0 < 0) (w : World) :
    Calls Try.prog 10 #[.int .i64 a0] w fun e w' => e = .returned (.bool true) ∧ Below w.heap.size w w' := by
  go_enter Try.func10, Try.ntmps10
  go_wp2
  go_ret
  exact ⟨rfl, Below.refl _ _⟩

theorem col_big (a0 : Int) (h : 1024 < a0) (w : World) :
    Calls Try.prog 10 #[.int .i64 a0] w fun e w' => e = .returned (.bool true) ∧ Below w.heap.size w w' := by
  go_enter Try.func10, Try.ntmps10
  go_wp2
  go_ret
  exact ⟨rfl, Below.refl _ _⟩

set_option maxHeartbeats 1000000 in
theorem col_mid (n : Nat) (hn : n ≤ 1024) (w : World) :
    Calls Try.prog 10 #[.int .i64 n] w fun e w' => e = .returned (.bool true) ∧ Below w.heap.size w w' := by
  obtain ⟨hc1, hc2⟩ := cd_le n
  obtain ⟨L, hL⟩ : ∃ L, n * cd n = L := ⟨_, rfl⟩
  have hLb : L ≤ 17408 := by rw [← hL]; exact Nat.mul_le_mul hn (by omega : cd n ≤ 17)
  have e1 : (n : Int) * (cd n : Int) = (L : Int) := by rw [← hL]; simp
  have hnew := fun w => zzNew_any n L hL hn w
  generalize hW : cd n = W at *
  have HW : Hid _ := hW.symm
  have HL : Hid _ := hL
  have Hnew : Hid _ := hnew
  clear hL hnew hW
  have t1 : decide ((n : Int) < 0) = false := by simp
  have t2 : decide (1024 < (n : Int)) = false := by simp; omega
  have t3 : decide ((W : Int) < 0) = false := by simp
  go_enter Try.func10, Try.ntmps10
  go_wp2_with (go_at_call 30; refine (Hnew.out _).mono ?_; rintro e w' ⟨g, hg, rfl, hrow, hB⟩)
  obtain ⟨wn, rfl⟩ : ∃ wn : World, wn = w' := ⟨_, rfl⟩
  go_loopw [5] (fun i wr => ∃ c : Nat, c ≤ n ∧ i = .int .i64 c ∧ wr.rowIs g 50 L (fun i => .int .u64 (word n (i % W))) ∧ Below w.heap.size w wr) (fun i _ => n - (intOf i).toNat)
  case atStart => exact ⟨0, Nat.zero_le _, rfl, hrow, hB⟩
  case round =>
    clear hrow hB
    obtain ⟨c, hc, rfl, hrow, hB⟩ := hrel
    by_cases hlt : c < n
    · obtain ⟨p, hp⟩ : ∃ p, p = c * W := ⟨_, rfl⟩
      have hpW : p + W ≤ L := by rw [← HL.out, hp, ← Nat.succ_mul]; exact Nat.mul_le_mul_right _ hlt
      have hcol : ∀ j, j < W → wr.cell? ⟨g, p + j, none⟩ = some (.int .u64 (word n j)) := by
        intro j hj
        have := hrow.cell (i := p + j) (by omega)
        rw [hp] at this ⊢
        rw [idx_mod c W j hj] at this
        exact this
      have e2 : (c : Int) * (W : Int) = (p : Int) := by rw [hp]; simp
      have e3 : ((c : Int) + 1) * (W : Int) = (p : Int) + W := by rw [Int.add_mul, e2]; simp
      have e4 : p + W - p = W := by omega
      have Hcol : Hid _ := hcol
      clear hp hcol
      have hg2 := hrow.lt
      have en : (n : Int) - 1 = ((n - 1 : Nat) : Int) := by omega
      have En : Hid _ := en
      clear en
      by_cases hz : n % 64 = 0
      · have hzb : ((n : Int) % 64 != 0) = false := by simp; omega
        go_wp2_with fail
        refine (cloneWords_any g p W (L - p) (fun j => .int .u64 (word n j)) (fun _ _ => rfl) (by omega) wr Hcol.out).mono ?_
        rintro e w1 ⟨rfl, hr1, hb1, hs1⟩
        clear hs1
        go_wp2_with fail
        refine (fitsA _ W n hn (by omega) HW.out w1 hr1).mono ?_
        rintro e w2 ⟨rfl, k1, rfl⟩
        go_wp2_with fail
        rw [En.out]
        refine (fitsB _ W n hn (by omega) HW.out _ (row_drewN hr1 k1)).mono ?_
        rintro e w2 ⟨rfl, k2, rfl⟩
        have R := bel_drewN (hB.trans (hb1.mono hB.size)) (k1 + k2)
        have hrow' := row_drewN (row_below hrow hb1 hg2) (k1 + k2)
        clear hr1 hb1 hrow hB
        go_wp2
        go_roundw
        case rel => exact ⟨c + 1, by omega, by go_num, hrow', R⟩
        case measure => simp [intOf]; omega
      · have hzb : ((n : Int) % 64 != 0) = true := by simp; omega
        go_wp2_with fail
        refine (cloneWords_any g p W (L - p) (fun j => .int .u64 (word n j)) (fun _ _ => rfl) (by omega) wr Hcol.out).mono ?_
        rintro e w1 ⟨rfl, hr1, hb1, hs1⟩
        go_wp2_with fail
        refine (fitsA _ W n hn (by omega) HW.out w1 hr1).mono ?_
        rintro e w2 ⟨rfl, k1, rfl⟩
        go_wp2_with fail
        rw [En.out]
        refine (fitsB _ W n hn (by omega) HW.out _ (row_drewN hr1 k1)).mono ?_
        rintro e w2 ⟨rfl, k2, rfl⟩
        have hr2 := row_drewN (row_drewN hr1 k1) k2
        have hb2 := bel_drewN (bel_drewN (hB.trans (hb1.mono hB.size)) k1) k2
        have hrow2 := row_drewN (row_drewN (row_below hrow hb1 hg2) k1) k2
        have hs2 : ((w1.drewN k1).drewN k2).heap.size = wr.heap.size + 1 := hs1
        obtain ⟨w2, hw2⟩ : ∃ w2, w2 = (w1.drewN k1).drewN k2 := ⟨_, rfl⟩
        rw [← hw2] at hr2 hb2 hrow2 hs2 ⊢
        have hcol2 : ∀ j, j < W → w2.cell? ⟨wr.heap.size, 0 + j, none⟩ = some (.int .u64 (word n j)) := fun j hj => by rw [Nat.zero_add]; exact hr2.cell hj
        have Hs2 : Hid _ := hs2
        clear hw2 hr1 hb1 hrow hB hs1 hs2
        go_wp2_with fail
        refine (cloneWords_any wr.heap.size 0 W W (fun j => .int .u64 (word n j)) (fun _ _ => rfl) (by omega) w2 hcol2).mono ?_
        rintro e w3 ⟨rfl, hr3, hb3, hs3⟩
        have c3 := hr3.cell (i := W - 1) (by omega)
        have f3 := hr3.frozen (W - 1)
        clear hs3
        go_wp2_with fail
        refine (fitsC _ W n hn hz HW.out _ (World.cell?_setCell_same _ _ _ c3)).mono ?_
        rintro e w4 ⟨rfl, k3, rfl⟩
        have R := bel_drewN ((hb2.trans (hb3.mono hb2.size)).setCell (p := ⟨w2.heap.size, W - 1, none⟩) hb2.size (Value.int IntKind.u64 (bits BinOp.or IntKind.u64 (word n (W - 1)) (IntKind.u64.wrap (2 ^ (n % 64)))))) k3
        have hrow' := row_drewN ((row_below hrow2 hb3 hrow2.lt).setOther (a := ⟨w2.heap.size, W - 1, none⟩) (Nat.ne_of_lt hrow2.lt) (Value.int IntKind.u64 (bits BinOp.or IntKind.u64 (word n (W - 1)) (IntKind.u64.wrap (2 ^ (n % 64)))))) k3
        clear hr2 hb2 hrow2 hr3 hb3 c3 f3 hcol2
        go_wp2
        go_roundw
        case rel => exact ⟨c + 1, by omega, by go_num, hrow', R⟩
        case measure => simp [intOf]; omega
    · go_wp2
      go_ret
      exact ⟨rfl, hB⟩
end Go.Proofs.Qxb6002705a
