import Derived.Test.Qxb6002705aLawOwn
/- FnRelevantLeavesOwnColumnHoldingOnlyItself, every input. -/
namespace Go.Proofs.Qxb6002705a
open Go.RowKit

theorem own_long (k s : Int) (a b : Option Addr) (n c m d : Nat) (hn : n ≤ 9223372036854775807) (hm : m ≤ 9223372036854775807) (h : ¬ n + m ≤ 1048576) (w : World) :
    Calls Try.prog 8 #[.int .i64 k, .int .i64 s, .slice a n c, .slice b m d] w fun e w' => e = .returned (.bool true) ∧ Below w.heap.size w w' := by
  have hb := fun w => bytes8_no k s a b n c m d hn hm h w
  have Hb : Hid _ := hb
  clear hb h
  go_enter Try.func8, Try.ntmps8
  go_wp2_with (go_at_call 27; refine (Hb.out _).mono ?_; rintro e w' ⟨rfl, rfl⟩)
  go_ret
  exact ⟨rfl, Below.refl _ _⟩

theorem own_wide (k s : Int) (a b : Option Addr) (n c m d : Nat) (h : n + m ≤ 1048576) (h2 : 131072 < n ∨ 1048576 < 8 * n + m) (w : World) :
    Calls Try.prog 8 #[.int .i64 k, .int .i64 s, .slice a n c, .slice b m d] w fun e w' => e = .returned (.bool true) ∧ Below w.heap.size w w' := by
  have hb := fun w => bytes8_yes k s a b n c m d h w
  have Hb : Hid _ := hb
  clear hb
  by_cases h3 : 131072 < n
  · clear h2
    go_enter Try.func8, Try.ntmps8
    go_wp2_with (go_at_call 27; refine (Hb.out _).mono ?_; rintro e w' ⟨rfl, rfl⟩)
    go_ret
    exact ⟨rfl, Below.refl _ _⟩
  · have h4 : 1048576 < 8 * n + m := by omega
    clear h2
    go_enter Try.func8, Try.ntmps8
    go_wp2_with (go_at_call 27; refine (Hb.out _).mono ?_; rintro e w' ⟨rfl, rfl⟩)
    go_ret
    exact ⟨rfl, Below.refl _ _⟩

theorem own_no (k s : Int) (a b : Option Addr) (n c m d : Nat) (h : n + m ≤ 1048576) (h2 : n ≤ 131072) (h3 : 8 * n + m ≤ 1048576) (w : World)
    (hok : ∀ w' : World, w' = w → Calls Try.prog 18 #[.int .i64 k, .int .i64 s, .slice a n c, .slice b m d] w' fun e w'' => e = .returned (.bool false) ∧ w'' = w') :
    Calls Try.prog 8 #[.int .i64 k, .int .i64 s, .slice a n c, .slice b m d] w fun e w' => e = .returned (.bool true) ∧ Below w.heap.size w w' := by
  have hb := fun w => bytes8_yes k s a b n c m d h w
  have Hb : Hid _ := hb
  have Hok : Hid _ := hok
  clear hb hok
  go_enter Try.func8, Try.ntmps8
  go_wp2_with fail
  refine (Hb.out _).mono ?_
  rintro e wA ⟨rfl, hw⟩
  subst hw
  go_wp2_with fail
  refine (Hok.out _ rfl).mono ?_
  rintro e wB ⟨rfl, hw⟩
  subst hw
  go_wp2
  go_ret
  exact ⟨rfl, Below.refl _ _⟩

theorem own_other (k s : Int) (a b : Option Addr) (n c m d : Nat) (h : n + m ≤ 1048576) (h2 : n ≤ 131072) (h3 : 8 * n + m ≤ 1048576) (hk2 : ¬ k = 2) (hk3 : ¬ k = 3) (w : World)
    (hok : ∀ w' : World, w' = w → Calls Try.prog 18 #[.int .i64 k, .int .i64 s, .slice a n c, .slice b m d] w' fun e w'' => e = .returned (.bool true) ∧ w'' = w') :
    Calls Try.prog 8 #[.int .i64 k, .int .i64 s, .slice a n c, .slice b m d] w fun e w' => e = .returned (.bool true) ∧ Below w.heap.size w w' := by
  have hb := fun w => bytes8_yes k s a b n c m d h w
  have Hb : Hid _ := hb
  have Hok : Hid _ := hok
  clear hb hok
  have k2 : (k != 2) = true := by simp [hk2]
  have k3 : (k != 3) = true := by simp [hk3]
  clear hk2 hk3
  go_enter Try.func8, Try.ntmps8
  go_wp2_with fail
  refine (Hb.out _).mono ?_
  rintro e wA ⟨rfl, hw⟩
  subst hw
  go_wp2_with fail
  refine (Hok.out _ rfl).mono ?_
  rintro e wB ⟨rfl, hw⟩
  subst hw
  go_wp2
  go_ret
  exact ⟨rfl, Below.refl _ _⟩

/-- Whatever the input. -/
theorem own_any (k s : Int) (a b : Option Addr) (n c m d : Nat) (hn : n ≤ 9223372036854775807) (hm : m ≤ 9223372036854775807) (zs : Nat → Int) (bs : Nat → Bool) (w : World)
    (h1 : Seen w a n (fun j => .int .i64 (zs j))) (h2 : Seen w b m (fun j => .bool (bs j))) :
    Calls Try.prog 8 #[.int .i64 k, .int .i64 s, .slice a n c, .slice b m d] w fun e w' => e = .returned (.bool true) ∧ Below w.heap.size w w' := by
  by_cases hl : n + m ≤ 1048576
  · by_cases hw : 131072 < n ∨ 1048576 < 8 * n + m
    · exact own_wide k s a b n c m d hl hw w
    · by_cases ho : okHead k s n m
      · obtain ⟨q1, q2, q3, q4, q5, q6, q7⟩ := id ho
        subst q3
        obtain ⟨b1, o1, rfl, hc1⟩ := h1.first q1
        obtain ⟨b2, o2, rfl, hc2⟩ := h2.first q1
        by_cases hz : inR zs m
        · have hok : ∀ w' : World, w' = w → Calls Try.prog 18 #[.int .i64 k, .int .i64 s, .slice (some ⟨b1, o1, none⟩) m c, .slice (some ⟨b2, o2, none⟩) m d] w' fun e w'' => e = .returned (.bool true) ∧ w'' = w' :=
            fun w' hw' => trackerOK_yes k s b1 o1 m c _ m d zs ho hz w' (by rw [hw']; exact hc1)
          by_cases hk : k = 2 ∨ k = 3
          · obtain ⟨s', rfl⟩ : ∃ s' : Nat, s = (s' : Int) := ⟨s.toNat, by omega⟩
            exact own_main k s' m b1 o1 c b2 o2 d zs bs hk (by omega) q2 w hz hc1 hc2 hok (fun w' => bytes8_yes k s' _ _ m c m d hl w')
          · exact own_other k s _ _ m c m d hl (by omega) (by omega) (fun e => hk (Or.inl e)) (fun e => hk (Or.inr e)) w hok
        · exact own_no k s _ _ m c m d hl (by omega) (by omega) w (fun w' hw' => trackerOK_bad k s b1 o1 m c _ m d zs ho hz w' (by rw [hw']; exact hc1))
      · exact own_no k s a b n c m d hl (by omega) (by omega) w (fun w' _ => trackerOK_no k s a b n c m d (by omega) (by omega) ho w')
  · exact own_long k s a b n c m d hn hm hl w
end Go.Proofs.Qxb6002705a
