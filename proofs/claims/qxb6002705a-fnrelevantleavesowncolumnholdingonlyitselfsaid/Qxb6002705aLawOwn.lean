import Derived.Test.Qxb6002705aRelevant
import Derived.Test.Qxb6002705aGuards
import Derived.Test.Qxb6002705aKnown
import Derived.Test.Qxb6002705aClone
import Derived.Test.Qxb6002705aBit
/- FnRelevantLeavesOwnColumnHoldingOnlyItself. -/
namespace Go.Proofs.Qxb6002705a
open Go.RowKit

theorem zzBit_known (n s g L c r : Nat) (hn : n ≤ 1024) (hs : s < n) (hL : n * cd n = L) (hc : c < n) (hr : r < 64 * cd n) (w : World) (hrow : w.rowIs g 50 L (fun i => .int .u64 (known n s (cd n) i))) :
    Calls Try.prog 29 #[.slice (some ⟨g, 0, none⟩) L L, .int .i64 (cd n), .int .i64 c, .int .i64 r] w fun e w' => e = .returned (.bool (decide (r < n ∧ (¬ c = s ∨ r = s)))) ∧ w' = w := by
  have hcd := cd_le n
  have hi : c * cd n + r / 64 < L := by
    have : (c + 1) * cd n ≤ L := by rw [← hL]; exact Nat.mul_le_mul_right _ hc
    rw [Nat.succ_mul] at this
    omega
  have hLb : L ≤ 17408 := by rw [← hL]; exact Nat.mul_le_mul hn (by omega : cd n ≤ 17)
  have := zzBit_any g L (cd n) c r (c * cd n) _ rfl hi (by omega) (by omega) w (hrow.cell hi) (known_bd n s _ _)
  rw [known_bit n s c r hs hr] at this
  exact this

/-- A slice argument, read: its cells. -/
def Seen (w : World) (a : Option Addr) (n : Nat) (f : Nat → Value) : Prop := ∀ j, j < n → ∃ b o, a = some ⟨b, o, none⟩ ∧ w.cell? ⟨b, o + j, none⟩ = some (f j)

theorem Seen.first {w : World} {a : Option Addr} {n : Nat} {f : Nat → Value} (h : Seen w a n f) (hn : 1 ≤ n) : ∃ b o, a = some ⟨b, o, none⟩ ∧ ∀ j, j < n → w.cell? ⟨b, o + j, none⟩ = some (f j) := by
  obtain ⟨b, o, ha, _⟩ := h 0 (by omega)
  refine ⟨b, o, ha, fun j hj => ?_⟩
  obtain ⟨b', o', ha', hc⟩ := h j hj
  rw [ha] at ha'
  simp only [Option.some.injEq, Addr.mk.injEq] at ha'
  obtain ⟨rfl, rfl, _⟩ := ha'
  exact hc

theorem tk_out {w : World} {t C I n W G L : Nat} {k s : Int} {m q : Nat} {f1 f2 f3 : Nat → Value} (h : w.heap[t]? = some (tkO k s C I n W G L)) (hC : w.rowIs C 3 m f1) (hI : w.rowIs I 4 m f2) (hG : w.rowIs G 50 q f3) : ¬ (t = C ∨ t = I ∨ t = G) := by
  rintro (e | e | e)
  · subst e
    obtain ⟨c, hc, _⟩ := hC
    rw [h] at hc
    simp [tkO] at hc
  · subst e
    obtain ⟨c, hc, _⟩ := hI
    rw [h] at hc
    simp [tkO] at hc
  · subst e
    obtain ⟨c, hc, _⟩ := hG
    rw [h] at hc
    simp [tkO] at hc

set_option maxHeartbeats 2000000 in
theorem own_main (k : Int) (s n : Nat) (b1 o1 c1 b2 o2 c2 : Nat) (zs : Nat → Int) (bs : Nat → Bool) (hk : k = 2 ∨ k = 3) (hs : s < n) (hn : n ≤ 1024) (w : World)
    (hz : ∀ j, j < n → 0 ≤ zs j ∧ zs j ≤ 1073741824)
    (h1 : ∀ j, j < n → w.cell? ⟨b1, o1 + j, none⟩ = some (.int .i64 (zs j))) (h2 : ∀ j, j < n → w.cell? ⟨b2, o2 + j, none⟩ = some (.bool (bs j)))
    (hok : ∀ w' : World, w' = w → Calls Try.prog 18 #[.int .i64 k, .int .i64 s, .slice (some ⟨b1, o1, none⟩) n c1, .slice (some ⟨b2, o2, none⟩) n c2] w' fun e w'' => e = .returned (.bool true) ∧ w'' = w')
    (hby : ∀ w' : World, Calls Try.prog 27 #[.int .i64 k, .int .i64 s, .slice (some ⟨b1, o1, none⟩) n c1, .slice (some ⟨b2, o2, none⟩) n c2] w' fun e w'' => e = .returned (.bool true) ∧ w'' = w') :
    Calls Try.prog 8 #[.int .i64 k, .int .i64 s, .slice (some ⟨b1, o1, none⟩) n c1, .slice (some ⟨b2, o2, none⟩) n c2] w fun e w' => e = .returned (.bool true) ∧ Below w.heap.size w w' := by
  have Hz : Hid _ := hz
  have H1 : Hid _ := h1
  have H2 : Hid _ := h2
  have Hok : Hid _ := hok
  have Hby : Hid _ := hby
  have Hk : Hid _ := hk
  clear hz h1 h2 hok hby hk
  obtain ⟨hc1, hc2⟩ := cd_le n
  obtain ⟨L, hL⟩ : ∃ L, n * cd n = L := ⟨_, rfl⟩
  have HL : Hid _ := hL
  clear hL
  have e1 : (n : Int) * (cd n : Int) = (L : Int) := by rw [← HL.out]; simp
  have hLb : L ≤ 17408 := by rw [← HL.out]; exact Nat.mul_le_mul hn (by omega : cd n ≤ 17)
  have t4 : decide ((cd n : Int) < 0) = false := by simp
  have t5 : decide ((cd n : Int) * 64 < (n : Int)) = false := by simp; omega
  have t1 : decide ((131072 : Int) < (n : Int)) = false := by simp; omega
  have t2 : decide ((1048576 : Int) < (n : Int)) = false := by simp; omega
  have t3 : decide ((1048576 : Int) < 8 * (n : Int) + (n : Int)) = false := by simp; omega
  go_enter Try.func8, Try.ntmps8
  go_wp2_with fail
  refine (Hby.out _).mono ?_
  rintro e wA ⟨rfl, hw⟩
  subst hw
  go_wp2_with fail
  refine (Hok.out _ rfl).mono ?_
  rintro e wB ⟨rfl, hw⟩
  subst hw
  rcases Hk.out with hk2 | hk3
  · have k2 : (k != 2) = false := by simp [hk2]
    clear hk2
    go_wp2_with fail
    refine (cloneInts_any b1 o1 n c1 (fun j => .int .i64 (zs j)) (fun _ _ => rfl) (by omega) _ H1.out).mono ?_
    rintro e w1 ⟨rfl, hr1, hb1, hs1⟩
    have h2' : ∀ j, j < n → w1.cell? ⟨b2, o2 + j, none⟩ = some (.bool (bs j)) := fun j hj => (hb1.cell (World.block_lt_of_cell? _ _ (H2.out j hj))).trans (H2.out j hj)
    have H2' : Hid _ := h2'
    have Hs1 : Hid _ := hs1
    clear h2' hs1
    go_wp2_with fail
    refine (cloneBools_any b2 o2 n c2 (fun j => .bool (bs j)) (fun _ _ => rfl) (by omega) w1 H2'.out).mono ?_
    rintro e w2 ⟨rfl, hr2, hb2, hs2⟩
    have hC2 := row_below hr1 hb2 hr1.lt
    have hB2 := hb1.trans (hb2.mono hb1.size)
    have hs2' : w2.heap.size = wB.heap.size + 1 + 1 := by rw [hs2, Hs1.out]
    rw [Hs1.out] at hr2 ⊢
    have Hs2 : Hid _ := hs2'
    clear hr1 hb1 hb2 hs2 hs2' H2'
    go_wp2_with fail
    refine (zzTracker_any k s wB.heap.size (wB.heap.size + 1) n L hn HL.out w2).mono ?_
    rintro e w3 ⟨t, G, hG, ht, rfl, hT, hrG, hb3⟩
    rw [Hs2.out] at hG ht
    have hC3 := row_below hC2 hb3 (by rw [Hs2.out]; omega)
    have hI3 := row_below hr2 hb3 (by rw [Hs2.out]; omega)
    have hB3 := hB2.trans (hb3.mono hB2.size)
    clear hC2 hr2 hB2 hb3
    go_wp2_with fail
    refine (relevant_loop t _ _ n (cd n) G L k s zs bs (fun i => word n (i % cd n)) hn hs Hz.out (by omega) HL.out w3 hT hC3 hI3 hrG).mono ?_
    rintro e w4 ⟨pv, rfl, _, _, _, hG4, hK4⟩
    have hT4 := hK4.cells hT (tk_out hT hC3 hI3 hrG)
    have hR4 : w4.rowIs G 50 L (fun i => .int .u64 (known n s (cd n) i)) := hG4.congr (fun i _ => by rw [if_pos Hk.out]; rfl)
    have hB4 : Below wB.heap.size wB w4 := hB3.trans (hK4.below hB3.size (fun q hq e => by omega))
    clear hG4 hK4 hT hC3 hI3 hrG hB3
    go_wp2_with fail
    refine (known_any t _ _ n (cd n) G L k s w4 hT4).mono ?_
    rintro e w5 ⟨rfl, m, rfl⟩
    have hR5 := row_drewN hR4 m
    have hB5 := bel_drewN hB4 m
    have hbit := fun c r hc hr => zzBit_known n s G L c r hn hs HL.out hc hr _ hR5
    have Hbit : Hid _ := hbit
    clear hbit hR4 hB4 hT4
    generalize w4.drewN m = w5 at *
    go_wp2_with fail
    go_loop [13] (fun i => ∃ c : Nat, c ≤ n ∧ i = .int .i64 c) (fun i => n - (intOf i).toNat)
    case atStart => exact ⟨0, Nat.zero_le _, rfl⟩
    case round =>
      obtain ⟨c, hc, rfl⟩ := hrel
      by_cases hlt : c < n
      · go_wp2
        go_loop [14] (fun i => ∃ r : Nat, r ≤ 64 * cd n ∧ i = .int .i64 r) (fun i => 64 * cd n - (intOf i).toNat)
        case atStart => exact ⟨0, Nat.zero_le _, rfl⟩
        case round =>
          obtain ⟨r, hr, rfl⟩ := hrel
          by_cases hrw : r < 64 * cd n
          · have hb := Hbit.out c r hlt hrw
            by_cases hrn : r < n
            · by_cases hcs : c = s
              · by_cases hrs : r = s
                · rw [decide_eq_true (show r < n ∧ (¬ c = s ∨ r = s) from ⟨hrn, Or.inr hrs⟩)] at hb
                  have u1 : ((c : Int) != (s : Int)) = false := by simp; omega
                  have u2 : ((r : Int) == (s : Int)) = true := by simp; omega
                  have Hb : Hid _ := fun (_ : Unit) => hb
                  clear hb hcs hrs
                  go_wp2_with (go_at_call 29; refine (Hb.out ()).mono ?_; rintro e w' ⟨rfl, rfl⟩)
                  go_round
                  case rel => exact ⟨r + 1, by omega, by go_num⟩
                  case measure => simp [intOf]; omega
                · rw [decide_eq_false (show ¬ (r < n ∧ (¬ c = s ∨ r = s)) by omega)] at hb
                  have u1 : ((c : Int) != (s : Int)) = false := by simp; omega
                  have u2 : ((r : Int) == (s : Int)) = false := by simp; omega
                  have Hb : Hid _ := fun (_ : Unit) => hb
                  clear hb hcs hrs
                  go_wp2_with (go_at_call 29; refine (Hb.out ()).mono ?_; rintro e w' ⟨rfl, rfl⟩)
                  go_round
                  case rel => exact ⟨r + 1, by omega, by go_num⟩
                  case measure => simp [intOf]; omega
              · rw [decide_eq_true (show r < n ∧ (¬ c = s ∨ r = s) from ⟨hrn, Or.inl hcs⟩)] at hb
                have u1 : ((c : Int) != (s : Int)) = true := by simp; omega
                have Hb : Hid _ := fun (_ : Unit) => hb
                clear hb hcs
                go_wp2_with (go_at_call 29; refine (Hb.out ()).mono ?_; rintro e w' ⟨rfl, rfl⟩)
                go_round
                case rel => exact ⟨r + 1, by omega, by go_num⟩
                case measure => simp [intOf]; omega
            · rw [decide_eq_false (show ¬ (r < n ∧ (¬ c = s ∨ r = s)) by omega)] at hb
              have Hb : Hid _ := fun (_ : Unit) => hb
              clear hb
              go_wp2_with (go_at_call 29; refine (Hb.out ()).mono ?_; rintro e w' ⟨rfl, rfl⟩)
              go_round
              case rel => exact ⟨r + 1, by omega, by go_num⟩
              case measure => simp [intOf]; omega
          · go_wp2
            go_round
            case rel => exact ⟨c + 1, by omega, by go_num⟩
            case measure => simp [intOf]; omega
      · go_wp2
        go_ret
        exact ⟨rfl, hB5⟩
  · have k2 : (k != 2) = true := by simp [hk3]
    have k3 : (k != 3) = false := by simp [hk3]
    clear hk3
    go_wp2_with fail
    refine (cloneInts_any b1 o1 n c1 (fun j => .int .i64 (zs j)) (fun _ _ => rfl) (by omega) _ H1.out).mono ?_
    rintro e w1 ⟨rfl, hr1, hb1, hs1⟩
    have h2' : ∀ j, j < n → w1.cell? ⟨b2, o2 + j, none⟩ = some (.bool (bs j)) := fun j hj => (hb1.cell (World.block_lt_of_cell? _ _ (H2.out j hj))).trans (H2.out j hj)
    have H2' : Hid _ := h2'
    have Hs1 : Hid _ := hs1
    clear h2' hs1
    go_wp2_with fail
    refine (cloneBools_any b2 o2 n c2 (fun j => .bool (bs j)) (fun _ _ => rfl) (by omega) w1 H2'.out).mono ?_
    rintro e w2 ⟨rfl, hr2, hb2, hs2⟩
    have hC2 := row_below hr1 hb2 hr1.lt
    have hB2 := hb1.trans (hb2.mono hb1.size)
    have hs2' : w2.heap.size = wB.heap.size + 1 + 1 := by rw [hs2, Hs1.out]
    rw [Hs1.out] at hr2 ⊢
    have Hs2 : Hid _ := hs2'
    clear hr1 hb1 hb2 hs2 hs2' H2'
    go_wp2_with fail
    refine (zzTracker_any k s wB.heap.size (wB.heap.size + 1) n L hn HL.out w2).mono ?_
    rintro e w3 ⟨t, G, hG, ht, rfl, hT, hrG, hb3⟩
    rw [Hs2.out] at hG ht
    have hC3 := row_below hC2 hb3 (by rw [Hs2.out]; omega)
    have hI3 := row_below hr2 hb3 (by rw [Hs2.out]; omega)
    have hB3 := hB2.trans (hb3.mono hB2.size)
    clear hC2 hr2 hB2 hb3
    go_wp2_with fail
    refine (relevant_loop t _ _ n (cd n) G L k s zs bs (fun i => word n (i % cd n)) hn hs Hz.out (by omega) HL.out w3 hT hC3 hI3 hrG).mono ?_
    rintro e w4 ⟨pv, rfl, _, _, _, hG4, hK4⟩
    have hT4 := hK4.cells hT (tk_out hT hC3 hI3 hrG)
    have hR4 : w4.rowIs G 50 L (fun i => .int .u64 (known n s (cd n) i)) := hG4.congr (fun i _ => by rw [if_pos Hk.out]; rfl)
    have hB4 : Below wB.heap.size wB w4 := hB3.trans (hK4.below hB3.size (fun q hq e => by omega))
    clear hG4 hK4 hT hC3 hI3 hrG hB3
    go_wp2_with fail
    refine (known_any t _ _ n (cd n) G L k s w4 hT4).mono ?_
    rintro e w5 ⟨rfl, m, rfl⟩
    have hR5 := row_drewN hR4 m
    have hB5 := bel_drewN hB4 m
    have hbit := fun c r hc hr => zzBit_known n s G L c r hn hs HL.out hc hr _ hR5
    have Hbit : Hid _ := hbit
    clear hbit hR4 hB4 hT4
    generalize w4.drewN m = w5 at *
    go_wp2_with fail
    go_loop [13] (fun i => ∃ c : Nat, c ≤ n ∧ i = .int .i64 c) (fun i => n - (intOf i).toNat)
    case atStart => exact ⟨0, Nat.zero_le _, rfl⟩
    case round =>
      obtain ⟨c, hc, rfl⟩ := hrel
      by_cases hlt : c < n
      · go_wp2
        go_loop [14] (fun i => ∃ r : Nat, r ≤ 64 * cd n ∧ i = .int .i64 r) (fun i => 64 * cd n - (intOf i).toNat)
        case atStart => exact ⟨0, Nat.zero_le _, rfl⟩
        case round =>
          obtain ⟨r, hr, rfl⟩ := hrel
          by_cases hrw : r < 64 * cd n
          · have hb := Hbit.out c r hlt hrw
            by_cases hrn : r < n
            · by_cases hcs : c = s
              · by_cases hrs : r = s
                · rw [decide_eq_true (show r < n ∧ (¬ c = s ∨ r = s) from ⟨hrn, Or.inr hrs⟩)] at hb
                  have u1 : ((c : Int) != (s : Int)) = false := by simp; omega
                  have u2 : ((r : Int) == (s : Int)) = true := by simp; omega
                  have Hb : Hid _ := fun (_ : Unit) => hb
                  clear hb hcs hrs
                  go_wp2_with (go_at_call 29; refine (Hb.out ()).mono ?_; rintro e w' ⟨rfl, rfl⟩)
                  go_round
                  case rel => exact ⟨r + 1, by omega, by go_num⟩
                  case measure => simp [intOf]; omega
                · rw [decide_eq_false (show ¬ (r < n ∧ (¬ c = s ∨ r = s)) by omega)] at hb
                  have u1 : ((c : Int) != (s : Int)) = false := by simp; omega
                  have u2 : ((r : Int) == (s : Int)) = false := by simp; omega
                  have Hb : Hid _ := fun (_ : Unit) => hb
                  clear hb hcs hrs
                  go_wp2_with (go_at_call 29; refine (Hb.out ()).mono ?_; rintro e w' ⟨rfl, rfl⟩)
                  go_round
                  case rel => exact ⟨r + 1, by omega, by go_num⟩
                  case measure => simp [intOf]; omega
              · rw [decide_eq_true (show r < n ∧ (¬ c = s ∨ r = s) from ⟨hrn, Or.inl hcs⟩)] at hb
                have u1 : ((c : Int) != (s : Int)) = true := by simp; omega
                have Hb : Hid _ := fun (_ : Unit) => hb
                clear hb hcs
                go_wp2_with (go_at_call 29; refine (Hb.out ()).mono ?_; rintro e w' ⟨rfl, rfl⟩)
                go_round
                case rel => exact ⟨r + 1, by omega, by go_num⟩
                case measure => simp [intOf]; omega
            · rw [decide_eq_false (show ¬ (r < n ∧ (¬ c = s ∨ r = s)) by omega)] at hb
              have Hb : Hid _ := fun (_ : Unit) => hb
              clear hb
              go_wp2_with (go_at_call 29; refine (Hb.out ()).mono ?_; rintro e w' ⟨rfl, rfl⟩)
              go_round
              case rel => exact ⟨r + 1, by omega, by go_num⟩
              case measure => simp [intOf]; omega
          · go_wp2
            go_round
            case rel => exact ⟨c + 1, by omega, by go_num⟩
            case measure => simp [intOf]; omega
      · go_wp2
        go_ret
        exact ⟨rfl, hB5⟩
end Go.Proofs.Qxb6002705a
