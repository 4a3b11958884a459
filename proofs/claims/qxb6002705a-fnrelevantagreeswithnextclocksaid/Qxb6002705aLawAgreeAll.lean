import Derived.Test.Qxb6002705aLawAgree
/- FnRelevantAgreesWithNextClock, every input. -/
namespace Go.Proofs.Qxb6002705a
open Go.RowKit

set_option maxRecDepth 100000 in
theorem agree_long (k s : Int) (a b : Option Addr) (n c m d : Nat) (hn : n ≤ 9223372036854775807) (hm : m ≤ 9223372036854775807) (h : ¬ n + m ≤ 1048576) (w : World) :
    Calls Try.prog 7 #[.int .i64 k, .int .i64 s, .slice a n c, .slice b m d] w fun e w' => e = .returned (.bool true) ∧ Below w.heap.size w w' := by
  have hb := fun w => bytes7_no k s a b n c m d hn hm h w
  have Hb : Hid _ := hb
  clear hb h
  go_enter Try.func7, Try.ntmps7
  go_wp2_with (go_at_call 22; refine (Hb.out _).mono ?_; rintro e w' ⟨rfl, rfl⟩)
  go_ret
  exact ⟨rfl, Below.refl _ _⟩

set_option maxRecDepth 100000 in
theorem agree_wide (k s : Int) (a b : Option Addr) (n c m d : Nat) (h : n + m ≤ 1048576) (h2 : 131072 < n ∨ 1048576 < 8 * n + m) (w : World) :
    Calls Try.prog 7 #[.int .i64 k, .int .i64 s, .slice a n c, .slice b m d] w fun e w' => e = .returned (.bool true) ∧ Below w.heap.size w w' := by
  have hb := fun w => bytes7_yes k s a b n c m d h w
  have Hb : Hid _ := hb
  clear hb
  by_cases h3 : 131072 < n
  · clear h2
    go_enter Try.func7, Try.ntmps7
    go_wp2_with (go_at_call 22; refine (Hb.out _).mono ?_; rintro e w' ⟨rfl, rfl⟩)
    go_ret
    exact ⟨rfl, Below.refl _ _⟩
  · have h4 : 1048576 < 8 * n + m := by omega
    clear h2
    go_enter Try.func7, Try.ntmps7
    go_wp2_with (go_at_call 22; refine (Hb.out _).mono ?_; rintro e w' ⟨rfl, rfl⟩)
    go_ret
    exact ⟨rfl, Below.refl _ _⟩

set_option maxRecDepth 100000 in
theorem agree_no (k s : Int) (a b : Option Addr) (n c m d : Nat) (h : n + m ≤ 1048576) (h2 : n ≤ 131072) (h3 : 8 * n + m ≤ 1048576) (w : World)
    (hok : ∀ w' : World, w' = w → Calls Try.prog 18 #[.int .i64 k, .int .i64 s, .slice a n c, .slice b m d] w' fun e w'' => e = .returned (.bool false) ∧ w'' = w') :
    Calls Try.prog 7 #[.int .i64 k, .int .i64 s, .slice a n c, .slice b m d] w fun e w' => e = .returned (.bool true) ∧ Below w.heap.size w w' := by
  have hb := fun w => bytes7_yes k s a b n c m d h w
  have Hb : Hid _ := hb
  have Hok : Hid _ := hok
  clear hb hok
  go_enter Try.func7, Try.ntmps7
  go_wp2_with fail
  refine (Hb.out _).mono ?_
  rintro e wA ⟨rfl, hw⟩
  subst hw
  go_wp2_with fail
  refine (Hok.out _ rfl).mono ?_
  rintro e wB ⟨rfl, hw⟩
  subst hw
  go_wp2
  go_ret
  exact ⟨rfl, Below.refl _ _⟩

/-- Whatever the input. -/
theorem agree_any (k s : Int) (a b : Option Addr) (n c m d : Nat) (hn : n ≤ 9223372036854775807) (hm : m ≤ 9223372036854775807) (zs : Nat → Int) (bs : Nat → Bool) (w : World)
    (h1 : Seen w a n (fun j => .int .i64 (zs j))) (h2 : Seen w b m (fun j => .bool (bs j))) :
    Calls Try.prog 7 #[.int .i64 k, .int .i64 s, .slice a n c, .slice b m d] w fun e w' => e = .returned (.bool true) ∧ Below w.heap.size w w' := by
  by_cases hl : n + m ≤ 1048576
  · by_cases hw : 131072 < n ∨ 1048576 < 8 * n + m
    · exact agree_wide k s a b n c m d hl hw w
    · by_cases ho : okHead k s n m
      · obtain ⟨q1, q2, q3, q4, q5, q6, q7⟩ := id ho
        subst q3
        obtain ⟨b1, o1, rfl, hc1⟩ := h1.first q1
        obtain ⟨b2, o2, rfl, hc2⟩ := h2.first q1
        by_cases hz : inR zs m
        · have hok : ∀ w' : World, w' = w → Calls Try.prog 18 #[.int .i64 k, .int .i64 s, .slice (some ⟨b1, o1, none⟩) m c, .slice (some ⟨b2, o2, none⟩) m d] w' fun e w'' => e = .returned (.bool true) ∧ w'' = w' :=
            fun w' hw' => trackerOK_yes k s b1 o1 m c _ m d zs ho hz w' (by rw [hw']; exact hc1)
          obtain ⟨s', rfl⟩ : ∃ s' : Nat, s = (s' : Int) := ⟨s.toNat, by omega⟩
          exact agree_main k s' m b1 o1 c b2 o2 d zs bs (by omega) q2 w hz hc1 hc2 hok (fun w' => bytes7_yes k s' _ _ m c m d hl w')
        · exact agree_no k s _ _ m c m d hl (by omega) (by omega) w (fun w' hw' => trackerOK_bad k s b1 o1 m c _ m d zs ho hz w' (by rw [hw']; exact hc1))
      · exact agree_no k s a b n c m d hl (by omega) (by omega) w (fun w' _ => trackerOK_no k s a b n c m d (by omega) (by omega) ho w')
  · exact agree_long k s a b n c m d hn hm hl w
end Go.Proofs.Qxb6002705a
