import Derived.Test.Qxb6002705aBase
/- The guards of the two laws over a tracker: zzBytes, zzTrackerOK. -/
namespace Go.Proofs.Qxb6002705a
open Go.RowKit

theorem bytes8_yes (k s : Int) (a b : Option Addr) (n c m d : Nat) (h : n + m ≤ 1048576) (w : World) :
    Calls Try.prog 27 #[.int .i64 k, .int .i64 s, .slice a n c, .slice b m d] w fun e w' => e = .returned (.bool true) ∧ w' = w := by
  go_enter Try.func27, Try.ntmps27
  go_wp2
  go_ret
  exact ⟨rfl, rfl⟩

theorem bytes8_no (k s : Int) (a b : Option Addr) (n c m d : Nat) (hn : n ≤ 9223372036854775807) (hm : m ≤ 9223372036854775807) (h : ¬ n + m ≤ 1048576) (w : World) :
    Calls Try.prog 27 #[.int .i64 k, .int .i64 s, .slice a n c, .slice b m d] w fun e w' => e = .returned (.bool false) ∧ w' = w := by
  go_enter Try.func27, Try.ntmps27
  go_wp2
  all_goals go_ret
  all_goals exact ⟨rfl, rfl⟩

theorem bytes7_yes (k s : Int) (a b : Option Addr) (n c m d : Nat) (h : n + m ≤ 1048576) (w : World) :
    Calls Try.prog 22 #[.int .i64 k, .int .i64 s, .slice a n c, .slice b m d] w fun e w' => e = .returned (.bool true) ∧ w' = w := by
  go_enter Try.func22, Try.ntmps22
  go_wp2
  go_ret
  exact ⟨rfl, rfl⟩

theorem bytes7_no (k s : Int) (a b : Option Addr) (n c m d : Nat) (hn : n ≤ 9223372036854775807) (hm : m ≤ 9223372036854775807) (h : ¬ n + m ≤ 1048576) (w : World) :
    Calls Try.prog 22 #[.int .i64 k, .int .i64 s, .slice a n c, .slice b m d] w fun e w' => e = .returned (.bool false) ∧ w' = w := by
  go_enter Try.func22, Try.ntmps22
  go_wp2
  all_goals go_ret
  all_goals exact ⟨rfl, rfl⟩

/-- zzTrackerOK's tests ahead of the loop. -/
def okHead (k s : Int) (n m : Nat) : Prop := 1 ≤ n ∧ n ≤ 1024 ∧ m = n ∧ 1 ≤ k ∧ k ≤ 3 ∧ 0 ≤ s ∧ s < n

theorem trackerOK_no (k s : Int) (a b : Option Addr) (n c m d : Nat) (hn : n ≤ 1048576) (_hm : m ≤ 1048576) (h : ¬ okHead k s n m) (w : World) :
    Calls Try.prog 18 #[.int .i64 k, .int .i64 s, .slice a n c, .slice b m d] w fun e w' => e = .returned (.bool false) ∧ w' = w := by
  by_cases h1 : 1 ≤ n
  · by_cases h2 : n ≤ 1024
    · by_cases h3 : m = n
      · have t3 : ((m : Int) != (n : Int)) = false := by simp; omega
        by_cases h4 : 1 ≤ k
        · by_cases h5 : k ≤ 3
          · by_cases h6 : 0 ≤ s
            · have h7 : (n : Int) ≤ s := by unfold okHead at h; omega
              clear h h3
              go_enter Try.func18, Try.ntmps18
              go_wp2
              go_ret
              exact ⟨rfl, rfl⟩
            · clear h h3
              go_enter Try.func18, Try.ntmps18
              go_wp2
              go_ret
              exact ⟨rfl, rfl⟩
          · clear h h3
            go_enter Try.func18, Try.ntmps18
            go_wp2
            go_ret
            exact ⟨rfl, rfl⟩
        · clear h h3
          go_enter Try.func18, Try.ntmps18
          go_wp2
          go_ret
          exact ⟨rfl, rfl⟩
      · have t3 : ((m : Int) != (n : Int)) = true := by simp; omega
        clear h h3
        go_enter Try.func18, Try.ntmps18
        go_wp2
        go_ret
        exact ⟨rfl, rfl⟩
    · clear h
      go_enter Try.func18, Try.ntmps18
      go_wp2
      go_ret
      exact ⟨rfl, rfl⟩
  · clear h
    go_enter Try.func18, Try.ntmps18
    go_wp2
    go_ret
    exact ⟨rfl, rfl⟩

def inR (zs : Nat → Int) (n : Nat) : Prop := ∀ j, j < n → 0 ≤ zs j ∧ zs j ≤ 1073741824
def outR (zs : Nat → Int) (n : Nat) : Prop := ¬ inR zs n

theorem trackerOK_any (k s : Int) (b1 o1 n c1 : Nat) (b2 : Option Addr) (m c2 : Nat) (zs : Nat → Int) (h : okHead k s n m) (w : World) (hcell : ∀ j, j < n → w.cell? ⟨b1, o1 + j, none⟩ = some (.int .i64 (zs j))) :
    Calls Try.prog 18 #[.int .i64 k, .int .i64 s, .slice (some ⟨b1, o1, none⟩) n c1, .slice b2 m c2] w fun e w' =>
      ((e = .returned (.bool false) ∧ outR zs n) ∨ (e = .returned (.bool true) ∧ inR zs n)) ∧ w' = w := by
  obtain ⟨h1, h2, rfl, h4, h5, h6, h7⟩ := h
  have t3 : ((m : Int) != (m : Int)) = false := by simp
  have u1 : decide ((m : Int) < 1) = false := by simp; omega
  have u2 : decide (1024 < (m : Int)) = false := by simp; omega
  have u3 : decide (k < 1) = false := by simp; omega
  have u4 : decide (3 < k) = false := by simp; omega
  have u5 : decide (s < 0) = false := by simp; omega
  have u6 : decide ((m : Int) ≤ s) = false := by simp; omega
  have Hcell : Hid _ := hcell
  clear hcell
  go_enter Try.func18, Try.ntmps18
  go_wp2
  go_loop [10] (fun i => ∃ j : Nat, j ≤ m ∧ i = .int .i64 j ∧ ∀ q, q < j → 0 ≤ zs q ∧ zs q ≤ 1073741824) (fun i => m - (intOf i).toNat)
  case atStart => exact ⟨0, Nat.zero_le _, rfl, fun q hq => absurd hq (Nat.not_lt_zero _)⟩
  case round =>
    obtain ⟨j, hj, rfl, hall⟩ := hrel
    have Hall : Hid _ := hall
    clear hall
    by_cases hlt : j < m
    · have cj := Hcell.out j hlt
      by_cases z0 : 0 ≤ zs j
      · by_cases z1 : zs j ≤ 1073741824
        · go_wp2
          go_round
          case rel =>
            refine ⟨j + 1, by omega, by go_num, fun q hq => ?_⟩
            by_cases e : q = j
            · subst e; exact ⟨z0, z1⟩
            · exact Hall.out q (by omega)
          case measure => simp [intOf]; omega
        · go_wp2
          go_ret
          exact ⟨.inl ⟨rfl, fun h => by have := (h j hlt).2; omega⟩, rfl⟩
      · go_wp2
        go_ret
        exact ⟨.inl ⟨rfl, fun h => by have := (h j hlt).1; omega⟩, rfl⟩
    · obtain rfl : j = m := by omega
      go_wp2
      go_ret
      exact ⟨.inr ⟨rfl, Hall.out⟩, rfl⟩

theorem trackerOK_yes (k s : Int) (b1 o1 n c1 : Nat) (b2 : Option Addr) (m c2 : Nat) (zs : Nat → Int) (h : okHead k s n m) (hz : inR zs n) (w : World) (hcell : ∀ j, j < n → w.cell? ⟨b1, o1 + j, none⟩ = some (.int .i64 (zs j))) :
    Calls Try.prog 18 #[.int .i64 k, .int .i64 s, .slice (some ⟨b1, o1, none⟩) n c1, .slice b2 m c2] w fun e w' => e = .returned (.bool true) ∧ w' = w :=
  (trackerOK_any k s b1 o1 n c1 b2 m c2 zs h w hcell).mono fun _ _ ⟨h, hw⟩ => ⟨h.elim (fun q => absurd hz q.2) (fun q => q.1), hw⟩

theorem trackerOK_bad (k s : Int) (b1 o1 n c1 : Nat) (b2 : Option Addr) (m c2 : Nat) (zs : Nat → Int) (h : okHead k s n m) (hz : ¬ inR zs n) (w : World) (hcell : ∀ j, j < n → w.cell? ⟨b1, o1 + j, none⟩ = some (.int .i64 (zs j))) :
    Calls Try.prog 18 #[.int .i64 k, .int .i64 s, .slice (some ⟨b1, o1, none⟩) n c1, .slice b2 m c2] w fun e w' => e = .returned (.bool false) ∧ w' = w :=
  (trackerOK_any k s b1 o1 n c1 b2 m c2 zs h w hcell).mono fun _ _ ⟨h, hw⟩ => ⟨h.elim (fun q => q.1) (fun q => absurd q.2 hz), hw⟩
end Go.Proofs.Qxb6002705a
