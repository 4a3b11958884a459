import Derived.Test.Qxb6602040aShape
/- FnShapeOfMatchesModel. -/
namespace Go.Proofs.Qxb6602040a
open Go.RowKit

theorem grown_drewN {W w : World} (h : Grown W w) (k : Nat) : Grown W (w.drewN k) := h
theorem grown_trans {a b c : World} (h : Grown a b) (k : Grown b c) : Grown a c := ⟨World.keptBut_trans h.1 k.1, fun x => (k.2.1 x).trans (h.2.1 x), Nat.le_trans h.2.2 k.2.2⟩

theorem shape_yes (s : ByteArray) (hv : valid (dot s) s.size) (w : World) :
    Calls Try.prog 11 #[.string s] w fun e w' => e = .returned (.tuple #[.agg #[.int .u64 (fnvK s (keyEnd (dot s) s.size)), .int .i64 (lastd (dot s) s.size)], .bool true]) ∧ Grown w w' :=
  (shape_any s hv.2.1 w).mono fun _ _ ⟨h, hg⟩ => ⟨h.elim (fun q => q.2) (fun q => absurd hv q.1), hg⟩
theorem shape_no (s : ByteArray) (hm : s.size ≤ 1048576) (hv : ¬ valid (dot s) s.size) (w : World) :
    Calls Try.prog 11 #[.string s] w fun e w' => e = .returned (.tuple #[.agg #[.int .u64 0, .int .i64 0], .bool false]) ∧ Grown w w' := by
  by_cases hs : s.size ≤ 512
  · exact (shape_any s hs w).mono fun _ _ ⟨h, hg⟩ => ⟨h.elim (fun q => absurd q.1 hv) (fun q => q.2), hg⟩
  · exact shape_long s (by omega) hm w
theorem model_yes (s : ByteArray) (hv : valid (dot s) s.size) (w : World) :
    Calls Try.prog 7 #[.string s] w fun e w' => e = .returned (.tuple #[.int .u64 (fnvK s (keyEnd (dot s) s.size)), .int .i64 (lastd (dot s) s.size), .bool true]) ∧ w' = w :=
  (model_any s hv.1 hv.2.1 w).mono fun _ _ ⟨h, hg⟩ => ⟨h.elim (fun q => q.2) (fun q => absurd hv q.1), hg⟩
theorem model_no (s : ByteArray) (hm : s.size ≤ 1048576) (hv : ¬ valid (dot s) s.size) (w : World) :
    Calls Try.prog 7 #[.string s] w fun e w' => e = .returned (.tuple #[.int .u64 0, .int .i64 0, .bool false]) ∧ w' = w := by
  by_cases hs : 1 ≤ s.size ∧ s.size ≤ 512
  · exact (model_any s hs.1 hs.2 w).mono fun _ _ ⟨h, hg⟩ => ⟨h.elim (fun q => absurd q.1 hv) (fun q => q.2), hg⟩
  · exact model_short s (by omega) hm w

theorem zzShape (s : ByteArray) (K l : Int) (b : Bool) (hc : ∀ w : World, Calls Try.prog 11 #[.string s] w fun e w' => e = .returned (.tuple #[.agg #[.int .u64 K, .int .i64 l], .bool b]) ∧ Grown w w') (w : World) :
    Calls Try.prog 6 #[.string s] w fun e w' => e = .returned (.tuple #[.int .u64 K, .int .i64 l, .bool b]) ∧ Grown w w' := by
  have Hc : Hid _ := hc
  clear hc
  go_enter Try.func6, Try.ntmps6
  go_wp2_with (go_at_call 11; refine (Hc.out _).mono ?_; rintro e w1 ⟨rfl, hg⟩)
  go_quiet (fail)
  go_wp2
  go_ret3
  exact ⟨rfl, grown_drewN (hg.alloc _ _) _⟩

theorem bytes5_no (s : ByteArray) (hm : s.size ≤ 9223372036854775807) (h : ¬ s.size ≤ 1048576) (w : World) :
    Calls Try.prog 5 #[.string s] w fun e w' => e = .returned (.bool false) ∧ w' = w := by
  go_enter Try.func5, Try.ntmps5
  go_wp2
  go_ret
  exact ⟨rfl, rfl⟩

theorem bytes5_yes (s : ByteArray) (h : s.size ≤ 1048576) (w : World) :
    Calls Try.prog 5 #[.string s] w fun e w' => e = .returned (.bool true) ∧ w' = w := by
  go_enter Try.func5, Try.ntmps5
  go_wp2
  go_ret
  exact ⟨rfl, rfl⟩

theorem law_long (s : ByteArray) (hm : s.size ≤ 9223372036854775807) (h : ¬ s.size ≤ 1048576) (w : World) :
    Calls Try.prog 3 #[.string s] w fun e w' => e = .returned (.bool true) ∧ Grown w w' := by
  have hb := fun w => bytes5_no s hm h w
  have Hb : Hid _ := hb
  clear hb h
  go_enter Try.func3, Try.ntmps3
  go_wp2_with (go_at_call 5; refine (Hb.out _).mono ?_; rintro e w' ⟨rfl, rfl⟩)
  go_ret
  exact ⟨rfl, Grown.refl _⟩

theorem law_core (s : ByteArray) (hm : s.size ≤ 1048576) (K l : Int) (b : Bool)
    (h1 : ∀ w : World, Calls Try.prog 6 #[.string s] w fun e w' => e = .returned (.tuple #[.int .u64 K, .int .i64 l, .bool b]) ∧ Grown w w')
    (h2 : ∀ w : World, Calls Try.prog 7 #[.string s] w fun e w' => e = .returned (.tuple #[.int .u64 K, .int .i64 l, .bool b]) ∧ w' = w) (w : World) :
    Calls Try.prog 3 #[.string s] w fun e w' => e = .returned (.bool true) ∧ Grown w w' := by
  have hb := fun w => bytes5_yes s hm w
  have Hb : Hid _ := hb
  have H1 : Hid _ := h1
  have H2 : Hid _ := h2
  clear hb h1 h2
  go_enter Try.func3, Try.ntmps3
  go_wp2_with (first | (go_at_call 5; refine (Hb.out _).mono ?_; rintro e w' ⟨rfl, rfl⟩) | (go_at_call 6; refine (H1.out _).mono ?_; rintro e w1 ⟨rfl, hg⟩) | (go_at_call 7; refine (H2.out _).mono ?_; rintro e w2 ⟨rfl, rfl⟩))
  go_ret
  exact ⟨rfl, hg⟩

theorem shape_law (s : ByteArray) (hs : s.size ≤ 9223372036854775807) (w : World) : Calls Try.prog 3 #[.string s] w fun e w' => e = .returned (.bool true) ∧ Grown w w' := by
  by_cases hl : s.size ≤ 1048576
  · by_cases hv : valid (dot s) s.size
    · exact law_core s hl _ _ _ (fun w => zzShape s _ _ _ (fun w => shape_yes s hv w) w) (fun w => model_yes s hv w) w
    · exact law_core s hl _ _ _ (fun w => zzShape s _ _ _ (fun w => shape_no s hl hv w) w) (fun w => model_no s hl hv w) w
  · exact law_long s hs hl w
end Go.Proofs.Qxb6602040a
