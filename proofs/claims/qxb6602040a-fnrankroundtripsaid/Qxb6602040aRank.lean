import Derived.Test.Qxb6602040aRows
import Derived.WalkKit
import Derived.ProofKit
import Derived.OpenShut
import Derived.ShutString
import Derived.WalkLawsBesides
import Derived.WalkSpells
/- FnRankRoundTrip. -/
namespace Go.Proofs.Qxb6602040a
open Go.RowKit

theorem bytes8_no (s : ByteArray) (hm : s.size ≤ 9223372036854775807) (h : ¬ s.size ≤ 1048576) (w : World) :
    Calls Try.prog 8 #[.string s] w fun e w' => e = .returned (.bool false) ∧ w' = w := by
  go_enter Try.func8, Try.ntmps8
  go_wp2
  go_ret
  exact ⟨rfl, rfl⟩

theorem bytes8_yes (s : ByteArray) (h : s.size ≤ 1048576) (w : World) :
    Calls Try.prog 8 #[.string s] w fun e w' => e = .returned (.bool true) ∧ w' = w := by
  go_enter Try.func8, Try.ntmps8
  go_wp2
  go_ret
  exact ⟨rfl, rfl⟩

theorem sev0 (w : World) : Calls Try.prog 10 #[.int .i64 0] w fun e w' => e = .returned (.string ⟨#[65, 67, 67, 69, 83, 83]⟩) ∧ w' = w := by
  go_enter Try.func10, Try.ntmps10
  go_wp2
  go_ret
  exact ⟨rfl, rfl⟩
theorem sev1 (w : World) : Calls Try.prog 10 #[.int .i64 1] w fun e w' => e = .returned (.string ⟨#[82, 69, 65, 68]⟩) ∧ w' = w := by
  go_enter Try.func10, Try.ntmps10
  go_wp2
  go_ret
  exact ⟨rfl, rfl⟩
theorem sev2 (w : World) : Calls Try.prog 10 #[.int .i64 2] w fun e w' => e = .returned (.string ⟨#[87, 82, 73, 84, 69]⟩) ∧ w' = w := by
  go_enter Try.func10, Try.ntmps10
  go_wp2
  go_ret
  exact ⟨rfl, rfl⟩
theorem sev3 (w : World) : Calls Try.prog 10 #[.int .i64 3] w fun e w' => e = .returned (.string ⟨#[69, 88, 67, 76, 85, 83, 73, 86, 69]⟩) ∧ w' = w := by
  go_enter Try.func10, Try.ntmps10
  go_wp2
  go_ret
  exact ⟨rfl, rfl⟩

theorem rk0 (w : World) : Calls Try.prog 9 #[.string ⟨#[65, 67, 67, 69, 83, 83]⟩] w fun e w' => e = .returned (.int .i64 0) ∧ w' = w := by
  go_enter Try.func9, Try.ntmps9
  go_wp2
  go_ret
  exact ⟨rfl, rfl⟩
theorem rk1 (w : World) : Calls Try.prog 9 #[.string ⟨#[82, 69, 65, 68]⟩] w fun e w' => e = .returned (.int .i64 1) ∧ w' = w := by
  go_enter Try.func9, Try.ntmps9
  go_wp2
  go_ret
  exact ⟨rfl, rfl⟩
theorem rk2 (w : World) : Calls Try.prog 9 #[.string ⟨#[87, 82, 73, 84, 69]⟩] w fun e w' => e = .returned (.int .i64 2) ∧ w' = w := by
  go_enter Try.func9, Try.ntmps9
  go_wp2
  go_ret
  exact ⟨rfl, rfl⟩
theorem rk3 (w : World) : Calls Try.prog 9 #[.string ⟨#[69, 88, 67, 76, 85, 83, 73, 86, 69]⟩] w fun e w' => e = .returned (.int .i64 3) ∧ w' = w := by
  go_enter Try.func9, Try.ntmps9
  go_wp2
  go_ret
  exact ⟨rfl, rfl⟩
theorem rkNone (s : ByteArray) (t0 : (s.toList == [65, 67, 67, 69, 83, 83]) = false) (t1 : (s.toList == [82, 69, 65, 68]) = false) (t2 : (s.toList == [87, 82, 73, 84, 69]) = false) (t3 : (s.toList == [69, 88, 67, 76, 85, 83, 73, 86, 69]) = false) (w : World) :
    Calls Try.prog 9 #[.string s] w fun e w' => e = .returned (.int .i64 (-1)) ∧ w' = w := by
  go_enter Try.func9, Try.ntmps9
  go_wp2
  go_ret
  exact ⟨rfl, rfl⟩

set_option maxHeartbeats 1000000 in
theorem trip0 (w : World) : Calls Try.prog 4 #[.string ⟨#[65, 67, 67, 69, 83, 83]⟩] w fun e w' => e = .returned (.bool true) ∧ Grown w w' := by
  have hb := fun w => bytes8_yes ⟨#[65, 67, 67, 69, 83, 83]⟩ (by decide) w
  have Hb : Hid _ := hb
  clear hb
  go_enter Try.func4, Try.ntmps4
  go_wp2_with (go_at_call 8; refine (Hb.out _).mono ?_; rintro e w' ⟨rfl, rfl⟩)
  go_loop [3] (fun i => ∃ j : Nat, j ≤ 4 ∧ i = .int .i64 j) (fun i => 4 - (intOf i).toNat)
  case atStart => exact ⟨0, by omega, rfl⟩
  case round =>
    obtain ⟨j, hj, rfl⟩ := hrel
    rcases (show j = 0 ∨ j = 1 ∨ j = 2 ∨ j = 3 ∨ j = 4 by omega) with rfl | rfl | rfl | rfl | rfl
    · go_wp2_with (first | (go_at_call 10; refine (sev0 _).mono ?_; rintro e w' ⟨rfl, rfl⟩) | (go_at_call 9; refine (rk0 _).mono ?_; rintro e w' ⟨rfl, rfl⟩))
      go_round
      case rel => exact ⟨1, by omega, by go_num⟩
      case measure => simp [intOf]
    · go_wp2_with (first | (go_at_call 10; refine (sev1 _).mono ?_; rintro e w' ⟨rfl, rfl⟩) | (go_at_call 9; refine (rk1 _).mono ?_; rintro e w' ⟨rfl, rfl⟩))
      go_round
      case rel => exact ⟨2, by omega, by go_num⟩
      case measure => simp [intOf]
    · go_wp2_with (first | (go_at_call 10; refine (sev2 _).mono ?_; rintro e w' ⟨rfl, rfl⟩) | (go_at_call 9; refine (rk2 _).mono ?_; rintro e w' ⟨rfl, rfl⟩))
      go_round
      case rel => exact ⟨3, by omega, by go_num⟩
      case measure => simp [intOf]
    · go_wp2_with (first | (go_at_call 10; refine (sev3 _).mono ?_; rintro e w' ⟨rfl, rfl⟩) | (go_at_call 9; refine (rk3 _).mono ?_; rintro e w' ⟨rfl, rfl⟩))
      go_round
      case rel => exact ⟨4, by omega, by go_num⟩
      case measure => simp [intOf]
    · go_wp2_with (first | (go_at_call 9; refine (rk0 _).mono ?_; rintro e w' ⟨rfl, rfl⟩) | (go_at_call 10; refine (sev0 _).mono ?_; rintro e w' ⟨rfl, rfl⟩))
      go_ret
      exact ⟨rfl, Grown.refl _⟩

set_option maxHeartbeats 1000000 in
theorem trip1 (w : World) : Calls Try.prog 4 #[.string ⟨#[82, 69, 65, 68]⟩] w fun e w' => e = .returned (.bool true) ∧ Grown w w' := by
  have hb := fun w => bytes8_yes ⟨#[82, 69, 65, 68]⟩ (by decide) w
  have Hb : Hid _ := hb
  clear hb
  go_enter Try.func4, Try.ntmps4
  go_wp2_with (go_at_call 8; refine (Hb.out _).mono ?_; rintro e w' ⟨rfl, rfl⟩)
  go_loop [3] (fun i => ∃ j : Nat, j ≤ 4 ∧ i = .int .i64 j) (fun i => 4 - (intOf i).toNat)
  case atStart => exact ⟨0, by omega, rfl⟩
  case round =>
    obtain ⟨j, hj, rfl⟩ := hrel
    rcases (show j = 0 ∨ j = 1 ∨ j = 2 ∨ j = 3 ∨ j = 4 by omega) with rfl | rfl | rfl | rfl | rfl
    · go_wp2_with (first | (go_at_call 10; refine (sev0 _).mono ?_; rintro e w' ⟨rfl, rfl⟩) | (go_at_call 9; refine (rk0 _).mono ?_; rintro e w' ⟨rfl, rfl⟩))
      go_round
      case rel => exact ⟨1, by omega, by go_num⟩
      case measure => simp [intOf]
    · go_wp2_with (first | (go_at_call 10; refine (sev1 _).mono ?_; rintro e w' ⟨rfl, rfl⟩) | (go_at_call 9; refine (rk1 _).mono ?_; rintro e w' ⟨rfl, rfl⟩))
      go_round
      case rel => exact ⟨2, by omega, by go_num⟩
      case measure => simp [intOf]
    · go_wp2_with (first | (go_at_call 10; refine (sev2 _).mono ?_; rintro e w' ⟨rfl, rfl⟩) | (go_at_call 9; refine (rk2 _).mono ?_; rintro e w' ⟨rfl, rfl⟩))
      go_round
      case rel => exact ⟨3, by omega, by go_num⟩
      case measure => simp [intOf]
    · go_wp2_with (first | (go_at_call 10; refine (sev3 _).mono ?_; rintro e w' ⟨rfl, rfl⟩) | (go_at_call 9; refine (rk3 _).mono ?_; rintro e w' ⟨rfl, rfl⟩))
      go_round
      case rel => exact ⟨4, by omega, by go_num⟩
      case measure => simp [intOf]
    · go_wp2_with (first | (go_at_call 9; refine (rk1 _).mono ?_; rintro e w' ⟨rfl, rfl⟩) | (go_at_call 10; refine (sev1 _).mono ?_; rintro e w' ⟨rfl, rfl⟩))
      go_ret
      exact ⟨rfl, Grown.refl _⟩

set_option maxHeartbeats 1000000 in
theorem trip2 (w : World) : Calls Try.prog 4 #[.string ⟨#[87, 82, 73, 84, 69]⟩] w fun e w' => e = .returned (.bool true) ∧ Grown w w' := by
  have hb := fun w => bytes8_yes ⟨#[87, 82, 73, 84, 69]⟩ (by decide) w
  have Hb : Hid _ := hb
  clear hb
  go_enter Try.func4, Try.ntmps4
  go_wp2_with (go_at_call 8; refine (Hb.out _).mono ?_; rintro e w' ⟨rfl, rfl⟩)
  go_loop [3] (fun i => ∃ j : Nat, j ≤ 4 ∧ i = .int .i64 j) (fun i => 4 - (intOf i).toNat)
  case atStart => exact ⟨0, by omega, rfl⟩
  case round =>
    obtain ⟨j, hj, rfl⟩ := hrel
    rcases (show j = 0 ∨ j = 1 ∨ j = 2 ∨ j = 3 ∨ j = 4 by omega) with rfl | rfl | rfl | rfl | rfl
    · go_wp2_with (first | (go_at_call 10; refine (sev0 _).mono ?_; rintro e w' ⟨rfl, rfl⟩) | (go_at_call 9; refine (rk0 _).mono ?_; rintro e w' ⟨rfl, rfl⟩))
      go_round
      case rel => exact ⟨1, by omega, by go_num⟩
      case measure => simp [intOf]
    · go_wp2_with (first | (go_at_call 10; refine (sev1 _).mono ?_; rintro e w' ⟨rfl, rfl⟩) | (go_at_call 9; refine (rk1 _).mono ?_; rintro e w' ⟨rfl, rfl⟩))
      go_round
      case rel => exact ⟨2, by omega, by go_num⟩
      case measure => simp [intOf]
    · go_wp2_with (first | (go_at_call 10; refine (sev2 _).mono ?_; rintro e w' ⟨rfl, rfl⟩) | (go_at_call 9; refine (rk2 _).mono ?_; rintro e w' ⟨rfl, rfl⟩))
      go_round
      case rel => exact ⟨3, by omega, by go_num⟩
      case measure => simp [intOf]
    · go_wp2_with (first | (go_at_call 10; refine (sev3 _).mono ?_; rintro e w' ⟨rfl, rfl⟩) | (go_at_call 9; refine (rk3 _).mono ?_; rintro e w' ⟨rfl, rfl⟩))
      go_round
      case rel => exact ⟨4, by omega, by go_num⟩
      case measure => simp [intOf]
    · go_wp2_with (first | (go_at_call 9; refine (rk2 _).mono ?_; rintro e w' ⟨rfl, rfl⟩) | (go_at_call 10; refine (sev2 _).mono ?_; rintro e w' ⟨rfl, rfl⟩))
      go_ret
      exact ⟨rfl, Grown.refl _⟩

set_option maxHeartbeats 1000000 in
theorem trip3 (w : World) : Calls Try.prog 4 #[.string ⟨#[69, 88, 67, 76, 85, 83, 73, 86, 69]⟩] w fun e w' => e = .returned (.bool true) ∧ Grown w w' := by
  have hb := fun w => bytes8_yes ⟨#[69, 88, 67, 76, 85, 83, 73, 86, 69]⟩ (by decide) w
  have Hb : Hid _ := hb
  clear hb
  go_enter Try.func4, Try.ntmps4
  go_wp2_with (go_at_call 8; refine (Hb.out _).mono ?_; rintro e w' ⟨rfl, rfl⟩)
  go_loop [3] (fun i => ∃ j : Nat, j ≤ 4 ∧ i = .int .i64 j) (fun i => 4 - (intOf i).toNat)
  case atStart => exact ⟨0, by omega, rfl⟩
  case round =>
    obtain ⟨j, hj, rfl⟩ := hrel
    rcases (show j = 0 ∨ j = 1 ∨ j = 2 ∨ j = 3 ∨ j = 4 by omega) with rfl | rfl | rfl | rfl | rfl
    · go_wp2_with (first | (go_at_call 10; refine (sev0 _).mono ?_; rintro e w' ⟨rfl, rfl⟩) | (go_at_call 9; refine (rk0 _).mono ?_; rintro e w' ⟨rfl, rfl⟩))
      go_round
      case rel => exact ⟨1, by omega, by go_num⟩
      case measure => simp [intOf]
    · go_wp2_with (first | (go_at_call 10; refine (sev1 _).mono ?_; rintro e w' ⟨rfl, rfl⟩) | (go_at_call 9; refine (rk1 _).mono ?_; rintro e w' ⟨rfl, rfl⟩))
      go_round
      case rel => exact ⟨2, by omega, by go_num⟩
      case measure => simp [intOf]
    · go_wp2_with (first | (go_at_call 10; refine (sev2 _).mono ?_; rintro e w' ⟨rfl, rfl⟩) | (go_at_call 9; refine (rk2 _).mono ?_; rintro e w' ⟨rfl, rfl⟩))
      go_round
      case rel => exact ⟨3, by omega, by go_num⟩
      case measure => simp [intOf]
    · go_wp2_with (first | (go_at_call 10; refine (sev3 _).mono ?_; rintro e w' ⟨rfl, rfl⟩) | (go_at_call 9; refine (rk3 _).mono ?_; rintro e w' ⟨rfl, rfl⟩))
      go_round
      case rel => exact ⟨4, by omega, by go_num⟩
      case measure => simp [intOf]
    · go_wp2_with (first | (go_at_call 9; refine (rk3 _).mono ?_; rintro e w' ⟨rfl, rfl⟩) | (go_at_call 10; refine (sev3 _).mono ?_; rintro e w' ⟨rfl, rfl⟩))
      go_ret
      exact ⟨rfl, Grown.refl _⟩

set_option maxHeartbeats 1000000 in
theorem tripNone (s : ByteArray) (hs : s.size ≤ 1048576) (t0 : (s.toList == [65, 67, 67, 69, 83, 83]) = false) (t1 : (s.toList == [82, 69, 65, 68]) = false) (t2 : (s.toList == [87, 82, 73, 84, 69]) = false) (t3 : (s.toList == [69, 88, 67, 76, 85, 83, 73, 86, 69]) = false)
    (v0 : ([65, 67, 67, 69, 83, 83] == s.toList) = false) (v1 : ([82, 69, 65, 68] == s.toList) = false) (v2 : ([87, 82, 73, 84, 69] == s.toList) = false) (v3 : ([69, 88, 67, 76, 85, 83, 73, 86, 69] == s.toList) = false) (w : World) :
    Calls Try.prog 4 #[.string s] w fun e w' => e = .returned (.bool true) ∧ Grown w w' := by
  have hb := fun w => bytes8_yes s hs w
  have Hb : Hid _ := hb
  have hr := fun w => rkNone s t0 t1 t2 t3 w
  have Hr : Hid _ := hr
  clear hb hr
  go_enter Try.func4, Try.ntmps4
  go_wp2_with (go_at_call 8; refine (Hb.out _).mono ?_; rintro e w' ⟨rfl, rfl⟩)
  go_loop [3] (fun i => ∃ j : Nat, j ≤ 4 ∧ i = .int .i64 j) (fun i => 4 - (intOf i).toNat)
  case atStart => exact ⟨0, by omega, rfl⟩
  case round =>
    obtain ⟨j, hj, rfl⟩ := hrel
    rcases (show j = 0 ∨ j = 1 ∨ j = 2 ∨ j = 3 ∨ j = 4 by omega) with rfl | rfl | rfl | rfl | rfl
    · go_wp2_with (first | (go_at_call 10; refine (sev0 _).mono ?_; rintro e w' ⟨rfl, rfl⟩) | (go_at_call 9; refine (rk0 _).mono ?_; rintro e w' ⟨rfl, rfl⟩))
      go_round
      case rel => exact ⟨1, by omega, by go_num⟩
      case measure => simp [intOf]
    · go_wp2_with (first | (go_at_call 10; refine (sev1 _).mono ?_; rintro e w' ⟨rfl, rfl⟩) | (go_at_call 9; refine (rk1 _).mono ?_; rintro e w' ⟨rfl, rfl⟩))
      go_round
      case rel => exact ⟨2, by omega, by go_num⟩
      case measure => simp [intOf]
    · go_wp2_with (first | (go_at_call 10; refine (sev2 _).mono ?_; rintro e w' ⟨rfl, rfl⟩) | (go_at_call 9; refine (rk2 _).mono ?_; rintro e w' ⟨rfl, rfl⟩))
      go_round
      case rel => exact ⟨3, by omega, by go_num⟩
      case measure => simp [intOf]
    · go_wp2_with (first | (go_at_call 10; refine (sev3 _).mono ?_; rintro e w' ⟨rfl, rfl⟩) | (go_at_call 9; refine (rk3 _).mono ?_; rintro e w' ⟨rfl, rfl⟩))
      go_round
      case rel => exact ⟨4, by omega, by go_num⟩
      case measure => simp [intOf]
    · go_wp2_with (go_at_call 9; refine (Hr.out _).mono ?_; rintro e w' ⟨rfl, rfl⟩)
      go_loop [6] (fun i => ∃ j : Nat, j ≤ 4 ∧ i = .int .i64 j) (fun i => 4 - (intOf i).toNat)
      case atStart => exact ⟨0, by omega, rfl⟩
      case round =>
        obtain ⟨j, hj, rfl⟩ := hrel
        rcases (show j = 0 ∨ j = 1 ∨ j = 2 ∨ j = 3 ∨ j = 4 by omega) with rfl | rfl | rfl | rfl | rfl
        · go_wp2_with (go_at_call 10; refine (sev0 _).mono ?_; rintro e w' ⟨rfl, rfl⟩)
          go_round
          case rel => exact ⟨1, by omega, by go_num⟩
          case measure => simp [intOf]
        · go_wp2_with (go_at_call 10; refine (sev1 _).mono ?_; rintro e w' ⟨rfl, rfl⟩)
          go_round
          case rel => exact ⟨2, by omega, by go_num⟩
          case measure => simp [intOf]
        · go_wp2_with (go_at_call 10; refine (sev2 _).mono ?_; rintro e w' ⟨rfl, rfl⟩)
          go_round
          case rel => exact ⟨3, by omega, by go_num⟩
          case measure => simp [intOf]
        · go_wp2_with (go_at_call 10; refine (sev3 _).mono ?_; rintro e w' ⟨rfl, rfl⟩)
          go_round
          case rel => exact ⟨4, by omega, by go_num⟩
          case measure => simp [intOf]
        · go_wp2
          go_ret
          exact ⟨rfl, Grown.refl _⟩

theorem tripLong (s : ByteArray) (hm : s.size ≤ 9223372036854775807) (h : ¬ s.size ≤ 1048576) (w : World) :
    Calls Try.prog 4 #[.string s] w fun e w' => e = .returned (.bool true) ∧ Grown w w' := by
  have hb := fun w => bytes8_no s hm h w
  have Hb : Hid _ := hb
  clear hb h
  go_enter Try.func4, Try.ntmps4
  go_wp2_with (go_at_call 8; refine (Hb.out _).mono ?_; rintro e w' ⟨rfl, rfl⟩)
  go_ret
  exact ⟨rfl, Grown.refl _⟩

theorem str_of {s : ByteArray} {l : List UInt8} (h : (s.toList == l) = true) : s = ⟨l.toArray⟩ := by
  have h1 : s.toList = l := by simpa using h
  rw [ByteArray.toList_eq] at h1
  cases s
  simp at h1
  subst h1
  simp
theorem flip_beq {s : ByteArray} {l : List UInt8} (h : (s.toList == l) = false) : (l == s.toList) = false := by
  have h1 : ¬ s.toList = l := by simpa using h
  simpa using fun e => h1 e.symm

theorem trip_any (s : ByteArray) (hs : s.size ≤ 9223372036854775807) (w : World) : Calls Try.prog 4 #[.string s] w fun e w' => e = .returned (.bool true) ∧ Grown w w' := by
  by_cases hl : s.size ≤ 1048576
  · cases t0 : (s.toList == [65, 67, 67, 69, 83, 83])
    · cases t1 : (s.toList == [82, 69, 65, 68])
      · cases t2 : (s.toList == [87, 82, 73, 84, 69])
        · cases t3 : (s.toList == [69, 88, 67, 76, 85, 83, 73, 86, 69])
          · exact tripNone s hl t0 t1 t2 t3 (flip_beq t0) (flip_beq t1) (flip_beq t2) (flip_beq t3) w
          · rw [str_of t3]; exact trip3 w
        · rw [str_of t2]; exact trip2 w
      · rw [str_of t1]; exact trip1 w
    · rw [str_of t0]; exact trip0 w
  · exact tripLong s hs hl w
end Go.Proofs.Qxb6602040a
