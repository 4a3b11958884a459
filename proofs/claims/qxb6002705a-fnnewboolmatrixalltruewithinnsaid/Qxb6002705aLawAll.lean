import Derived.Test.Qxb6002705aBit
namespace Go.Proofs.Qxb6002705a
open Go.RowKit

theorem all_neg (a0 : Int) (h : a0 < 0) (w : World) :
    Calls Try.prog 9 #[.int .i64 a0] w fun e w' => e = .returned (.bool true) ∧ Below w.heap.size w w' := by
  go_enter Try.func9, Try.ntmps9
  go_wp2
  go_ret
  exact ⟨rfl, Below.refl _ _⟩

theorem all_big (a0 : Int) (h : 1024 < a0) (w : World) :
    Calls Try.prog 9 #[.int .i64 a0] w fun e w' => e = .returned (.bool true) ∧ Below w.heap.size w w' := by
  go_enter Try.func9, Try.ntmps9
  go_wp2
  go_ret
  exact ⟨rfl, Below.refl _ _⟩

theorem cnt_zero (n : Nat) : ((0 * n : Nat) : Int) = 0 := by simp
theorem cnt_bd (n c : Nat) (hn : n ≤ 1024) (hc : c ≤ n) : c * n ≤ 1048576 := Nat.mul_le_mul (by omega : c ≤ 1024) hn

set_option maxHeartbeats 1000000 in
theorem all_mid (n : Nat) (hn : n ≤ 1024) (w : World) :
    Calls Try.prog 9 #[.int .i64 n] w fun e w' => e = .returned (.bool true) ∧ Below w.heap.size w w' := by
  obtain ⟨hc1, hc2⟩ := cd_le n
  obtain ⟨L, hL⟩ : ∃ L, n * cd n = L := ⟨_, rfl⟩
  have hLb : L ≤ 17408 := by rw [← hL]; exact Nat.mul_le_mul hn (by omega : cd n ≤ 17)
  have e1 : (n : Int) * (cd n : Int) = (L : Int) := by rw [← hL]; simp
  have hnew := fun w => zzNew_any n L hL hn w
  have hbit := fun g c r hc hr w hrow => zzBit_mat n g L c r hn hL hc hr w hrow
  generalize cd n = W at *
  have Hnew : Hid _ := hnew
  have Hbit : Hid _ := hbit
  clear hL hnew hbit
  have t1 : decide ((n : Int) < 0) = false := by simp
  have t2 : decide (1024 < (n : Int)) = false := by simp; omega
  by_cases hz : n % 64 = 0
  · have hzb : ((n : Int) % 64 != 0) = false := by simp; omega
    have hwt : ((W : Int) != (n : Int) / 64) = false := by simp; omega
    go_enter Try.func9, Try.ntmps9
    go_wp2_with (go_at_call 30; refine (Hnew.out _).mono ?_; rintro e w' ⟨g, hg, rfl, hrow, hB⟩)
    go_loop [6, 7] (fun t i => ∃ c : Nat, c ≤ n ∧ i = .int .i64 c ∧ t = .int .i64 ((c * n : Nat) : Int)) (fun _ i => n - (intOf i).toNat)
    case atStart => exact ⟨0, Nat.zero_le _, rfl, by rw [cnt_zero]⟩
    case round =>
      obtain ⟨c, hc, rfl, rfl⟩ := hrel
      have hcb := cnt_bd n c hn hc
      by_cases hlt : c < n
      · go_wp2
        go_loop [6, 8] (fun t i => ∃ r : Nat, r ≤ 64 * W ∧ i = .int .i64 r ∧ t = .int .i64 ((c * n + min r n : Nat) : Int)) (fun _ i => 64 * W - (intOf i).toNat)
        case atStart => exact ⟨0, Nat.zero_le _, rfl, by simp⟩
        case round =>
          obtain ⟨r, hr, rfl, rfl⟩ := hrel
          by_cases hrw : r < 64 * W
          · by_cases hrn : r < n
            · have hmin : min r n = r := by omega
              have hmin2 : c * n + min (r + 1) n = c * n + r + 1 := by omega
              rw [hmin]
              have Hm : Hid _ := hmin2
              clear hmin hmin2
              go_wp2_with (go_at_call 29; refine (Hbit.out g c r hlt hrw _ hrow).mono ?_; rw [decide_eq_true hrn]; rintro e w' ⟨rfl, rfl⟩)
              go_round
              case rel => exact ⟨r + 1, by omega, by go_num, by rw [Hm.out]; go_num⟩
              case measure => simp [intOf]; omega
            · exfalso; omega
          · have hmin : c * n + min r n = (c + 1) * n := by rw [Nat.succ_mul]; omega
            rw [hmin]
            clear hmin
            go_wp2
            go_round
            case rel => exact ⟨c + 1, by omega, by go_num, rfl⟩
            case measure => simp [intOf]; omega
      · obtain rfl : c = n := by omega
        go_wp2
        go_ret
        exact ⟨ret_true (by simp), hB⟩
  · have hzb : ((n : Int) % 64 != 0) = true := by simp; omega
    have hwt : ((W : Int) != (n : Int) / 64 + 1) = false := by simp; omega
    go_enter Try.func9, Try.ntmps9
    go_wp2_with (go_at_call 30; refine (Hnew.out _).mono ?_; rintro e w' ⟨g, hg, rfl, hrow, hB⟩)
    go_loop [6, 7] (fun t i => ∃ c : Nat, c ≤ n ∧ i = .int .i64 c ∧ t = .int .i64 ((c * n : Nat) : Int)) (fun _ i => n - (intOf i).toNat)
    case atStart => exact ⟨0, Nat.zero_le _, rfl, by rw [cnt_zero]⟩
    case round =>
      obtain ⟨c, hc, rfl, rfl⟩ := hrel
      have hcb := cnt_bd n c hn hc
      by_cases hlt : c < n
      · go_wp2
        go_loop [6, 8] (fun t i => ∃ r : Nat, r ≤ 64 * W ∧ i = .int .i64 r ∧ t = .int .i64 ((c * n + min r n : Nat) : Int)) (fun _ i => 64 * W - (intOf i).toNat)
        case atStart => exact ⟨0, Nat.zero_le _, rfl, by simp⟩
        case round =>
          obtain ⟨r, hr, rfl, rfl⟩ := hrel
          by_cases hrw : r < 64 * W
          · by_cases hrn : r < n
            · have hmin : min r n = r := by omega
              have hmin2 : c * n + min (r + 1) n = c * n + r + 1 := by omega
              rw [hmin]
              have Hm : Hid _ := hmin2
              clear hmin hmin2
              go_wp2_with (go_at_call 29; refine (Hbit.out g c r hlt hrw _ hrow).mono ?_; rw [decide_eq_true hrn]; rintro e w' ⟨rfl, rfl⟩)
              go_round
              case rel => exact ⟨r + 1, by omega, by go_num, by rw [Hm.out]; go_num⟩
              case measure => simp [intOf]; omega
            · have hmin : min r n = n := by omega
              have hmin2 : c * n + min (r + 1) n = c * n + n := by omega
              rw [hmin]
              have Hm : Hid _ := hmin2
              clear hmin hmin2
              go_wp2_with (go_at_call 29; refine (Hbit.out g c r hlt hrw _ hrow).mono ?_; rw [decide_eq_false hrn]; rintro e w' ⟨rfl, rfl⟩)
              go_round
              case rel => exact ⟨r + 1, by omega, by go_num, by rw [Hm.out]; go_num⟩
              case measure => simp [intOf]; omega
          · have hmin : c * n + min r n = (c + 1) * n := by rw [Nat.succ_mul]; omega
            rw [hmin]
            clear hmin
            go_wp2
            go_round
            case rel => exact ⟨c + 1, by omega, by go_num, rfl⟩
            case measure => simp [intOf]; omega
      · obtain rfl : c = n := by omega
        go_wp2
        go_ret
        exact ⟨ret_true (by simp), hB⟩
end Go.Proofs.Qxb6002705a
