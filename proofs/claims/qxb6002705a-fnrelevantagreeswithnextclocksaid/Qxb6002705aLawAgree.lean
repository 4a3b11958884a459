import Derived.Test.Qxb6002705aLawOwn
import Derived.Test.Qxb6002705aNext
import Derived.Test.Qxb6002705aPreds
/- FnRelevantAgreesWithNextClock. -/
namespace Go.Proofs.Qxb6002705a
open Go.RowKit

theorem row_cells {w : World} {g : Nat} {e : TypeId} {n : Nat} {f : Nat → Value} (h : w.rowIs g e n f) : ∀ j, j < n → w.cell? ⟨g, 0 + j, none⟩ = some (f j) := fun j hj => by rw [Nat.zero_add]; exact h.cell hj

set_option maxRecDepth 100000 in
set_option maxHeartbeats 4000000 in
theorem agree_main (k : Int) (s n : Nat) (b1 o1 c1 b2 o2 c2 : Nat) (zs : Nat → Int) (bs : Nat → Bool) (hs : s < n) (hn : n ≤ 1024) (w : World)
    (hz : ∀ j, j < n → 0 ≤ zs j ∧ zs j ≤ 1073741824)
    (h1 : ∀ j, j < n → w.cell? ⟨b1, o1 + j, none⟩ = some (.int .i64 (zs j))) (h2 : ∀ j, j < n → w.cell? ⟨b2, o2 + j, none⟩ = some (.bool (bs j)))
    (hok : ∀ w' : World, w' = w → Calls Try.prog 18 #[.int .i64 k, .int .i64 s, .slice (some ⟨b1, o1, none⟩) n c1, .slice (some ⟨b2, o2, none⟩) n c2] w' fun e w'' => e = .returned (.bool true) ∧ w'' = w')
    (hby : ∀ w' : World, Calls Try.prog 22 #[.int .i64 k, .int .i64 s, .slice (some ⟨b1, o1, none⟩) n c1, .slice (some ⟨b2, o2, none⟩) n c2] w' fun e w'' => e = .returned (.bool true) ∧ w'' = w') :
    Calls Try.prog 7 #[.int .i64 k, .int .i64 s, .slice (some ⟨b1, o1, none⟩) n c1, .slice (some ⟨b2, o2, none⟩) n c2] w fun e w' => e = .returned (.bool true) ∧ Below w.heap.size w w' := by
  have Hz : Hid _ := hz
  have H1 : Hid _ := h1
  have H2 : Hid _ := h2
  have Hok : Hid _ := hok
  have Hby : Hid _ := hby
  clear hz h1 h2 hok hby
  obtain ⟨hc1, hc2⟩ := cd_le n
  obtain ⟨L, hL⟩ : ∃ L, n * cd n = L := ⟨_, rfl⟩
  have HL : Hid _ := hL
  clear hL
  have t1 : decide ((131072 : Int) < (n : Int)) = false := by simp; omega
  have t2 : decide ((1048576 : Int) < (n : Int)) = false := by simp; omega
  have t3 : decide ((1048576 : Int) < 8 * (n : Int) + (n : Int)) = false := by simp; omega
  go_enter Try.func7, Try.ntmps7
  go_wp2_with fail
  refine (Hby.out _).mono ?_
  rintro e wA ⟨rfl, hw⟩
  subst hw
  go_wp2_with fail
  refine (Hok.out _ rfl).mono ?_
  rintro e wB ⟨rfl, hw⟩
  subst hw
  obtain ⟨N, hN⟩ : ∃ N, N = wB.heap.size := ⟨_, rfl⟩
  have HN : Hid _ := hN
  clear hN
  go_wp2_with fail
  refine (cloneInts_any b1 o1 n c1 (fun j => .int .i64 (zs j)) (fun _ _ => rfl) (by omega) _ H1.out).mono ?_
  rintro e w1 ⟨rfl, hr1, hb1, hs1⟩
  rw [← HN.out] at hr1 hb1 hs1 ⊢
  have h2' : ∀ j, j < n → w1.cell? ⟨b2, o2 + j, none⟩ = some (.bool (bs j)) := fun j hj => (hb1.cell (by have := World.block_lt_of_cell? _ _ (H2.out j hj); rw [HN.out]; exact this)).trans (H2.out j hj)
  have H2' : Hid _ := h2'
  have Hs1 : Hid _ := hs1
  clear h2' hs1
  go_wp2_with fail
  refine (cloneBools_any b2 o2 n c2 (fun j => .bool (bs j)) (fun _ _ => rfl) (by omega) w1 H2'.out).mono ?_
  rintro e w2 ⟨rfl, hr2, hb2, hs2⟩
  rw [Hs1.out] at hr2 hb2 hs2 ⊢
  have hC2 := row_below hr1 hb2 (by omega)
  have hB2 := hb1.trans (hb2.mono (by omega))
  have Hs2 : Hid _ := hs2
  clear hr1 hb1 hb2 hs2 H2'
  go_wp2_with fail
  refine (cloneInts_any N 0 n n (fun j => .int .i64 (zs j)) (fun _ _ => rfl) (by omega) w2 (row_cells hC2)).mono ?_
  rintro e w3 ⟨rfl, hr3, hb3, hs3⟩
  rw [Hs2.out] at hr3 hb3 hs3 ⊢
  have hC3 := row_below hC2 hb3 (by omega)
  have hI3 := row_below hr2 hb3 (by omega)
  have hB3 := hB2.trans (hb3.mono (by omega))
  have Hs3 : Hid _ := hs3
  clear hC2 hr2 hB2 hb3 hs3
  go_wp2_with fail
  refine (cloneBools_any (N + 1) 0 n n (fun j => .bool (bs j)) (fun _ _ => rfl) (by omega) w3 (row_cells hI3)).mono ?_
  rintro e w4 ⟨rfl, hr4, hb4, hs4⟩
  rw [Hs3.out] at hr4 hb4 hs4 ⊢
  have hC4 := row_below hC3 hb4 (by omega)
  have hI4 := row_below hI3 hb4 (by omega)
  have hP4 := row_below hr3 hb4 (by omega)
  have hB4 := hB3.trans (hb4.mono (by omega))
  have Hs4 : Hid _ := hs4
  clear hC3 hI3 hr3 hB3 hb4 hs4
  go_wp2_with fail
  refine (zzTracker_any k s N (N + 1) n L hn HL.out w4).mono ?_
  rintro e w5 ⟨t, G, hG, ht, rfl, hT, hrG, hb5⟩
  rw [Hs4.out] at hG ht hb5
  have hC5 := row_below hC4 hb5 (by omega)
  have hI5 := row_below hI4 hb5 (by omega)
  have hP5 := row_below hP4 hb5 (by omega)
  have hF5 := row_below hr4 hb5 (by omega)
  have hB5 := hB4.trans (hb5.mono (by omega))
  clear hC4 hI4 hP4 hr4 hB4 hb5
  go_wp2_with fail
  refine (zzNext_any t _ _ n (cd n) G L k s zs hn hs Hz.out w5 hT hC5).mono ?_
  rintro e w6 ⟨g6, cap6, rfl, hg6, hcell6, hb6⟩
  have hT6 : w6.heap[t]? = _ := (hb6.block t (lt_of_block hT)).trans hT
  have hC6 := row_below hC5 hb6 hC5.lt
  have hI6 := row_below hI5 hb6 hI5.lt
  have hP6 := row_below hP5 hb6 hP5.lt
  have hF6 := row_below hF5 hb6 hF5.lt
  have hG6 := row_below hrG hb6 hrG.lt
  have hB6 := hB5.trans (hb6.mono (by have := hC5.lt; omega))
  clear hC5 hI5 hP5 hF5 hrG hB5 hb6 hT hg6
  go_wp2_with fail
  refine (cloneInts_any g6 0 n cap6 (fun j => .int .i64 (if j = s then zs s + 1 else zs j)) (fun _ _ => rfl) (by omega) w6 hcell6).mono ?_
  rintro e w7 ⟨rfl, hr7, hb7, hs7⟩
  have hT7 : w7.heap[t]? = _ := (hb7.block t (lt_of_block hT6)).trans hT6
  have hC7 := row_below hC6 hb7 hC6.lt
  have hI7 := row_below hI6 hb7 hI6.lt
  have hP7 := row_below hP6 hb7 hP6.lt
  have hF7 := row_below hF6 hb7 hF6.lt
  have hG7 := row_below hG6 hb7 hG6.lt
  have hB7 := hB6.trans (hb7.mono (by have := hC6.lt; omega))
  have hGlt := hG6.lt
  have hPlt := hP6.lt
  have hFlt := hF6.lt
  obtain ⟨P, hPe⟩ : ∃ P, P = w6.heap.size := ⟨_, rfl⟩
  rw [← hPe] at hr7 hGlt hPlt hFlt ⊢
  clear hC6 hI6 hP6 hF6 hG6 hB6 hb7 hT6 hs7 hcell6 hPe
  go_wp2_with fail
  refine (relevant_loop t _ _ n (cd n) G L k s zs bs (fun i => word n (i % cd n)) hn hs Hz.out (by omega) HL.out w7 hT7 hC7 hI7 hG7).mono ?_
  rintro e w8 ⟨pv, rfl, hown, hC8, hI8, _, hK8⟩
  have hT8 := hK8.cells hT7 (tk_out hT7 hC7 hI7 hG7)
  have hP8 := hK8.row hP7 (by omega)
  have hF8 := hK8.row hF7 (by omega)
  have hQ8 := hK8.row hr7 (by omega)
  have hB8 : Below N wB w8 := hB7.trans (hK8.below (by rw [HN.out]; exact hB7.size) (fun q hq e => by omega))
  clear hK8 hT7 hC7 hI7 hG7 hr7 hP7 hF7 hB7
  go_wp2_with fail
  have hE9 := heap_alloc_new w8 (.cells #[.int .i64 s, .int .i64 (zs s + 1)] 36)
  have hT9 := (Below.heap_alloc w8 (.cells #[.int .i64 s, .int .i64 (zs s + 1)] 36) t (lt_of_block hT8)).trans hT8
  have hC9 := hC8.alloc (.cells #[.int .i64 s, .int .i64 (zs s + 1)] 36)
  have hI9 := hI8.alloc (.cells #[.int .i64 s, .int .i64 (zs s + 1)] 36)
  have hP9 := hP8.alloc (.cells #[.int .i64 s, .int .i64 (zs s + 1)] 36)
  have hF9 := hF8.alloc (.cells #[.int .i64 s, .int .i64 (zs s + 1)] 36)
  have hQ9 := hQ8.alloc (.cells #[.int .i64 s, .int .i64 (zs s + 1)] 36)
  have hO9 := hown.alloc (.cells #[.int .i64 s, .int .i64 (zs s + 1)] 36)
  have hB9 := hB8.alloc (by have := hB8.size; rw [HN.out]; exact this) (.cells #[.int .i64 s, .int .i64 (zs s + 1)] 36)
  obtain ⟨Eb, hEb⟩ : ∃ Eb, Eb = w8.heap.size := ⟨_, rfl⟩
  obtain ⟨w9, hw9⟩ : ∃ w9, w9 = w8.alloc (.cells #[.int .i64 s, .int .i64 (zs s + 1)] 36) := ⟨_, rfl⟩
  rw [← hw9] at hE9 hT9 hC9 hI9 hP9 hF9 hQ9 hO9 hB9 ⊢
  rw [← hEb] at hE9 ⊢
  clear hw9 hEb hT8 hC8 hI8 hP8 hF8 hQ8 hown hB8
  refine (zzClock_any t _ _ n (cd n) G L k s w9 hT9).mono ?_
  rintro e w9' ⟨rfl, hw⟩
  subst hw
  go_wp2_with fail
  refine (equal_any P n N n n (fun j => if j = s then zs s + 1 else zs j) hn w9' (fun j hj => hQ9.cell hj) (fun j hj => hC9.cell hj)).mono ?_
  rintro e w10 ⟨rfl, m, hw10⟩
  have hE10 : w10.heap[Eb]? = some (.cells #[.int .i64 s, .int .i64 (zs s + 1)] 36 (0, 0)) := by rw [hw10]; exact hE9
  have hT10 : w10.heap[t]? = some (tkO k s N (N + 1) n (cd n) G L) := by rw [hw10]; exact hT9
  have hC10 : w10.rowIs N 3 n (fun j => .int .i64 (if j = s then zs s + 1 else zs j)) := by rw [hw10]; exact hC9
  have hI10 : w10.rowIs (N + 1) 4 n (fun j => .bool (decide (j = s))) := by rw [hw10]; exact hI9
  have hP10 : w10.rowIs (N + 1 + 1) 3 n (fun j => .int .i64 (zs j)) := by rw [hw10]; exact hP9
  have hF10 : w10.rowIs (N + 1 + 1 + 1) 4 n (fun j => .bool (bs j)) := by rw [hw10]; exact hF9
  have hO10 : w10.ownsRow (w7.heap.size + 1) 36 2 pv (cnt bs n) (evs zs bs n) := by rw [hw10]; exact hO9
  have hB10 : Below N wB w10 := by rw [hw10]; exact bel_drewN hB9 m
  clear hw10 hE9 hT9 hC9 hI9 hP9 hF9 hQ9 hO9 hB9
  have e0 : w10.cell? ⟨Eb, 0, none⟩ = some (.int .i64 s) := by simp [World.cell?, hE10]
  have e1 : w10.cell? ⟨Eb, 1, none⟩ = some (.int .i64 (zs s + 1)) := by simp [World.cell?, hE10]
  have ec := hC10.cell hs
  simp only [if_true] at ec
  have hi0 : (0 : Int) ≤ (s : Int) := by omega
  have hi1 : (s : Int) < (n : Int) := by omega
  go_wp2_with fail
  go_quiet (fail)
  have hT11 : (w10.drewN nq).heap[t]? = some (tkO k s N (N + 1) n (cd n) G L) := hT10
  have hC11 := row_drewN hC10 nq
  have hI11 := row_drewN hI10 nq
  have hP11 := row_drewN hP10 nq
  have hF11 := row_drewN hF10 nq
  have hO11 : (w10.drewN nq).ownsRow (w7.heap.size + 1) 36 2 pv (cnt bs n) (evs zs bs n) := hO10
  have hB11 := bel_drewN hB10 nq
  generalize w10.drewN nq = w11 at hT11 hC11 hI11 hP11 hF11 hO11 hB11 ⊢
  clear hE10 hT10 hC10 hI10 hP10 hF10 hO10 hB10 e0 e1 ec
  go_wp2_with fail
  refine (cmp_any N n (N + 1 + 1) n n s zs hn hs w11 (fun j hj => hC11.cell hj) (fun j hj => hP11.cell hj)).mono ?_
  rintro e w11' ⟨rfl, hw⟩
  subst hw
  go_wp2_with fail
  go_loop [17, 18] (fun c i => ∃ j : Nat, j ≤ n ∧ i = .int .i64 j ∧ c = .int .i64 (cnt bs j)) (fun _ i => n - (intOf i).toNat)
  case atStart => exact ⟨0, Nat.zero_le _, rfl, rfl⟩
  case round =>
    obtain ⟨j, hj, rfl, rfl⟩ := hrel
    have hcl := cnt_le bs j
    by_cases hlt : j < n
    · have cf := hF11.cell hlt
      cases hb : bs j
      · rw [hb] at cf
        have HB : Hid _ := (evs_miss (clk := zs) hb).2
        clear hb
        go_wp2
        go_round
        case rel => exact ⟨j + 1, by omega, by go_num, by rw [HB.out]⟩
        case measure => simp [intOf]; omega
      · rw [hb] at cf
        have HB : Hid _ := (evs_hit (clk := zs) hb).2
        clear hb
        go_wp2
        go_round
        case rel => exact ⟨j + 1, by omega, by go_num, by rw [HB.out]; go_num⟩
        case measure => simp [intOf]; omega
    · obtain rfl : j = n := by omega
      rcases own_events hO11 with ⟨hpv, hm0⟩ | ⟨g, cap, hpv, hgb, hgl, hev⟩
      · rw [hpv, hm0]
        clear hpv hO11 hcl hm0
        have hBr : Hid (Below wB.heap.size wB w11') := by
          have := hB11
          rw [HN.out] at this
          exact this
        have hTr := hT11
        have hIr := hI11
        clear hT11 hI11 hB11 hC11 hP11 hF11
        go_wp2_with fail
        go_loop [19, 20] (fun pr i => pr = .int .i64 (-1) ∧ i = .int .i64 0) (fun _ _ => 0)
        case atStart => exact ⟨rfl, rfl⟩
        case round =>
          obtain ⟨rfl, rfl⟩ := hrel
          go_wp2_with fail
          refine (zzImm_any t _ _ j (cd j) G L k s w11' hTr).mono ?_
          rintro e wz ⟨rfl, hw⟩
          subst hw
          go_wp2_with fail
          go_loop [23] (fun i => ∃ r : Nat, r ≤ j ∧ i = .int .i64 r) (fun i => j - (intOf i).toNat)
          case atStart => exact ⟨0, Nat.zero_le _, rfl⟩
          case round =>
            obtain ⟨r, hr, rfl⟩ := hrel
            by_cases hrn : r < j
            · have cr := hIr.cell hrn
              by_cases ers : r = s
              · rw [decide_eq_true ers] at cr
                have ub : ((r : Int) == (s : Int)) = true := by rw [beq_iff_eq]; omega
                clear ers
                go_wp2
                go_round
                case rel => exact ⟨r + 1, by omega, by go_num⟩
                case measure => simp [intOf]; omega
              · rw [decide_eq_false ers] at cr
                have ub : ((r : Int) == (s : Int)) = false := by rw [beq_eq_false_iff_ne]; omega
                clear ers
                go_wp2
                go_round
                case rel => exact ⟨r + 1, by omega, by go_num⟩
                case measure => simp [intOf]; omega
            · go_wp2
              go_ret
              exact ⟨rfl, hBr.out⟩
      · rw [hpv]
        clear hpv hO11
        have hcn := cnt_le bs j
        go_wp2_with fail
        go_loopw [19, 20] (fun pr i wr => ∃ q : Nat, q ≤ cnt bs j ∧ i = .int .i64 q ∧ pr = .int .i64 (prevOf bs j q) ∧ Keeps (fun _ => False) w11' wr) (fun _ i _ => cnt bs j - (intOf i).toNat)
        case atStart => exact ⟨0, Nat.zero_le _, rfl, rfl, Keeps.refl _ _⟩
        case round =>
          obtain ⟨q, hq, rfl, rfl, hK⟩ := hrel
          by_cases hqm : q < cnt bs j
          · obtain ⟨p1, p2, p3, p4, p5⟩ := pth_facts zs bs j q hqm
            have hprev : prevOf bs j q < (pth bs j q : Int) ∧ -1 ≤ prevOf bs j q := by
              unfold prevOf
              split
              · omega
              · have := p5 (by omega)
                omega
            have HPV : Hid (prevOf bs j (q + 1) = (pth bs j q : Int)) := by
              unfold prevOf
              rw [if_neg (by omega)]
              rfl
            obtain ⟨pr, hpr⟩ : ∃ pr, pr = prevOf bs j q := ⟨_, rfl⟩
            obtain ⟨x, hx⟩ : ∃ x, x = pth bs j q := ⟨_, rfl⟩
            rw [← hpr] at hprev ⊢
            rw [← hx] at p1 p2 p3 p4 hprev HPV
            have ca : wr.cell? ⟨g, q * 2, none⟩ = some (.int .i64 x) := (World.cell?_of_block (hK.block g hgl (fun h => h))).trans (hev _ _ p3)
            have cb : wr.cell? ⟨g, q * 2 + 1, none⟩ = some (.int .i64 (zs x)) := (World.cell?_of_block (hK.block g hgl (fun h => h))).trans (hev _ _ p4)
            have hFr := hK.row hF11 (fun h => h)
            have hPr := hK.row hP11 (fun h => h)
            have cf := hFr.cell p1
            rw [p2] at cf
            have cp := hPr.cell p1
            have l1 := hFr.lt
            have l2 := hPr.lt
            have u1 : decide ((x : Int) ≤ pr) = false := by simp; omega
            have u2 : decide ((j : Int) ≤ (x : Int)) = false := by simp; omega
            have i0 : (0 : Int) ≤ (x : Int) := by omega
            have i1 : (x : Int) < (j : Int) := by omega
            clear p2 p3 p4 p5 hpr hx hFr hPr
            go_wp2
            go_quiet (fail)
            go_wp2
            go_roundw
            case rel => exact ⟨q + 1, by omega, by go_num, by rw [HPV.out], (hK.alloc _).drewN _⟩
            case measure => simp [intOf]; omega
          · have hTr := hK.cells hT11 (fun h => h)
            have hIr := hK.row hI11 (fun h => h)
            have hBr : Hid (Below wB.heap.size wB wr) := by
              have := hB11.trans (hK.below (B := N) (by rw [HN.out]; exact hB11.size) (fun _ _ h => h))
              rw [HN.out] at this
              exact this
            clear hK hT11 hI11 hB11 hC11 hP11 hF11
            go_wp2_with fail
            refine (zzImm_any t _ _ j (cd j) G L k s wr hTr).mono ?_
            rintro e wz ⟨rfl, hw⟩
            subst hw
            go_wp2_with fail
            go_loop [23] (fun i => ∃ r : Nat, r ≤ j ∧ i = .int .i64 r) (fun i => j - (intOf i).toNat)
            case atStart => exact ⟨0, Nat.zero_le _, rfl⟩
            case round =>
              obtain ⟨r, hr, rfl⟩ := hrel
              by_cases hrn : r < j
              · have cr := hIr.cell hrn
                by_cases ers : r = s
                · rw [decide_eq_true ers] at cr
                  have ub : ((r : Int) == (s : Int)) = true := by rw [beq_iff_eq]; omega
                  clear ers
                  go_wp2
                  go_round
                  case rel => exact ⟨r + 1, by omega, by go_num⟩
                  case measure => simp [intOf]; omega
                · rw [decide_eq_false ers] at cr
                  have ub : ((r : Int) == (s : Int)) = false := by rw [beq_eq_false_iff_ne]; omega
                  clear ers
                  go_wp2
                  go_round
                  case rel => exact ⟨r + 1, by omega, by go_num⟩
                  case measure => simp [intOf]; omega
              · go_wp2
                go_ret
                exact ⟨rfl, hBr.out⟩
end Go.Proofs.Qxb6002705a
