import Derived.Test.Qxb6002705aRelevant
import Derived.Test.Qxb6002705aClone
import Derived.Deep.RegionLawGrows
/- nextClock and the readers of the law on nextClock. -/
namespace Go.Proofs.Qxb6002705a
open Go.RowKit

theorem own_row {w : World} {base : Nat} {e : TypeId} {v : Value} {n : Nat} {xs : List Value} (h : w.ownsRow base e 1 v n xs) (hn : 1 ≤ n) :
    ∃ g cap f, v = .slice (some ⟨g, 0, none⟩) n cap ∧ base ≤ g ∧ w.rowIs g e cap f ∧ n ≤ cap ∧ ∀ j u, xs[j]? = some u → f j = u := by
  obtain ⟨h1, h2⟩ := h
  rcases h2 with ⟨_, h0⟩ | ⟨g, cap, cur, hv, hg, hh, hnc, _, hs, ht⟩
  · omega
  · refine ⟨g, cap, fun j => cur[j]?.getD default, hv, hg, ⟨cur, hh, by omega, fun i hi => ?_⟩, hnc, fun j u hu => ?_⟩
    · show cur[i]? = some (cur[i]?.getD default)
      rw [Array.getElem?_eq_getElem (by omega)]
      rfl
    · rw [← ht, List.getElem?_take] at hu
      split at hu
      · have : cur[j]? = some u := by rw [← Array.getElem?_toList]; exact hu
        show cur[j]?.getD default = u
        rw [this]
        rfl
      · cases hu

set_option maxHeartbeats 1000000 in
theorem nextClock_any (t C I n W G L : Nat) (k : Int) (s : Nat) (clk : Nat → Int) (hn : n ≤ 1024) (hs : s < n) (hclk : ∀ j, j < n → 0 ≤ clk j ∧ clk j ≤ 1073741824) (w : World)
    (ht : w.heap[t]? = some (tkO k s C I n W G L)) (hC : w.rowIs C 3 n (fun j => .int .i64 (clk j))) :
    Calls Try.prog 38 #[.pointer (some ⟨t, 0, none⟩), .slice none 0 0, .pointer none] w fun e w' => ∃ g cap, e = .returned (.slice (some ⟨g, 0, none⟩) n cap) ∧ w.heap.size ≤ g ∧
      (∀ j, j < n → w'.cell? ⟨g, 0 + j, none⟩ = some (.int .i64 (if j = s then clk s + 1 else clk j))) ∧ Below w.heap.size w w' := by
  have h2 := tk2 ht
  have h1 := tk1 ht
  obtain ⟨i0, hi, hz0, hz1, hz2⟩ := info_parts info3
  have hcp : ∀ j u, (tab (fun j => Value.int .i64 (clk j)) n)[j]? = some u → w.cell? ((⟨C, 0, none⟩ : Addr).add j) = some u := by
    intro j u hu
    obtain ⟨hj, rfl⟩ := tab_get hu
    rw [Addr.add_lit, Nat.zero_add]
    exact hC.cell hj
  have Hcp : Hid _ := hcp
  have Hclk : Hid _ := hclk
  have hlt := lt_of_block ht
  have Ht : Hid _ := fun (_ : Unit) => ht
  clear hcp hclk ht hC
  go_enter Try.func38, Try.ntmps38
  go_wp2
  go_region_law (refine step_append_grows rfl (.tmp 10) (.tmp 14) 22 rfl 3 i0 (.int .i64 0) 1 8 Try.underlying22 hi hz0 hz1 hz2 rfl (by decide) none 0 0 [] rfl (fun _ => ⟨rfl, rfl⟩) rfl (fun b hb => by cases hb) ⟨C, 0, none⟩ n n (tab (fun j => Value.int .i64 (clk j)) n) rfl (by rw [tab_len]; omega) Hcp.out (tab_one (fun _ _ => rfl)) (by omega) (by unfold maxLen; omega) (by omega) ?_; intro v1 w1 hown hgrow; obtain ⟨g, cap, f, rfl, hg, hrow, hcap, hf⟩ := own_row hown (by omega))
  have hT1 : w1.heap[t]? = some (tkO k s C I n W G L) := (hgrow.block t hlt (by simp)).trans (Ht.out ())
  have c1 := tk1 hT1
  have hfs : ∀ j, j < n → f j = .int .i64 (clk j) := fun j hj => hf j _ (by simp [tab, hj])
  have cs := hrow.cell (i := s) (by omega)
  rw [hfs s hs] at cs
  have fs := hrow.frozen s
  have hcb := Hclk.out s hs
  have hB : Below w.heap.size w w1 := ⟨hgrow.os, hgrow.tape, hgrow.output, hgrow.size, fun q hq => hgrow.block q hq (by simp)⟩
  have HF : Hid _ := hfs
  clear hown hgrow hT1 hf hfs h1 h2
  go_wp2
  go_ret
  have hg' : w.heap.size ≤ g := hg
  refine ⟨g, cap, rfl, hg', fun j hj => ?_, hB.setCell (p := ⟨g, s, none⟩) hg' _⟩
  have := (hrow.set s (.int .i64 (clk s + 1))).cell (i := j) (by omega)
  rw [Nat.zero_add, this]
  by_cases e : j = s
  · rw [if_pos e, if_pos e]
  · rw [if_neg e, if_neg e, HF.out j hj]

theorem zzNext_any (t C I n W G L : Nat) (k : Int) (s : Nat) (clk : Nat → Int) (hn : n ≤ 1024) (hs : s < n) (hclk : ∀ j, j < n → 0 ≤ clk j ∧ clk j ≤ 1073741824) (w : World)
    (ht : w.heap[t]? = some (tkO k s C I n W G L)) (hC : w.rowIs C 3 n (fun j => .int .i64 (clk j))) :
    Calls Try.prog 23 #[.pointer (some ⟨t, 0, none⟩)] w fun e w' => ∃ g cap, e = .returned (.slice (some ⟨g, 0, none⟩) n cap) ∧ w.heap.size ≤ g ∧
      (∀ j, j < n → w'.cell? ⟨g, 0 + j, none⟩ = some (.int .i64 (if j = s then clk s + 1 else clk j))) ∧ Below w.heap.size w w' := by
  have hc := fun (_ : Unit) => nextClock_any t C I n W G L k s clk hn hs hclk w ht hC
  have Hc : Hid _ := hc
  clear hc hclk ht hC
  go_enter Try.func23, Try.ntmps23
  go_wp2_with (go_at_call 38; refine (Hc.out ()).mono ?_; rintro e w1 ⟨g, cap, rfl, hg, hcell, hB⟩)
  go_ret
  exact ⟨g, cap, rfl, hg, hcell, hB⟩

theorem zzClock_any (t C I n W G L : Nat) (k s : Int) (w : World) (h : w.heap[t]? = some (tkO k s C I n W G L)) :
    Calls Try.prog 24 #[.pointer (some ⟨t, 0, none⟩)] w fun e w' => e = .returned (.slice (some ⟨C, 0, none⟩) n n) ∧ w' = w := by
  have h2 := tk2 h
  clear h
  go_enter Try.func24, Try.ntmps24
  go_wp2
  go_ret
  exact ⟨rfl, rfl⟩

theorem zzImm_any (t C I n W G L : Nat) (k s : Int) (w : World) (h : w.heap[t]? = some (tkO k s C I n W G L)) :
    Calls Try.prog 26 #[.pointer (some ⟨t, 0, none⟩)] w fun e w' => e = .returned (.slice (some ⟨I, 0, none⟩) n n) ∧ w' = w := by
  have h3 := tk3 h
  clear h
  go_enter Try.func26, Try.ntmps26
  go_wp2
  go_ret
  exact ⟨rfl, rfl⟩

theorem equal_any (g1 c1 g2 c2 n : Nat) (f : Nat → Int) (hn : n ≤ 1024) (w : World) (h1 : ∀ j, j < n → w.cell? ⟨g1, j, none⟩ = some (.int .i64 (f j))) (h2 : ∀ j, j < n → w.cell? ⟨g2, j, none⟩ = some (.int .i64 (f j))) :
    Calls Try.prog 25 #[.slice (some ⟨g1, 0, none⟩) n c1, .slice (some ⟨g2, 0, none⟩) n c2] w fun e w' => e = .returned (.bool true) ∧ ∃ m, w' = w.drewN m := by
  have H1 : Hid _ := h1
  have H2 : Hid _ := h2
  clear h1 h2
  go_enter Try.func25, Try.ntmps25
  go_wp2
  go_loopw [5] (fun i wr => ∃ j : Nat, j ≤ n ∧ i = .int .i64 j ∧ ∃ m, wr = w.drewN m) (fun i _ => n - (intOf i).toNat)
  case atStart => exact ⟨0, Nat.zero_le _, rfl, 0, rfl⟩
  case round =>
    obtain ⟨j, hj, rfl, m, rfl⟩ := hrel
    by_cases hlt : j < n
    · have c1 := H1.out j hlt
      have c2 := H2.out j hlt
      have hi0 : (0 : Int) ≤ (j : Int) := by omega
      have hi1 : (j : Int) < (n : Int) := by omega
      go_wp2
      go_quiet (fail)
      go_wp2
      go_roundw
      case rel => exact ⟨j + 1, by omega, by go_num, _, rfl⟩
      case measure => simp [intOf]; omega
    · go_wp2
      go_ret
      exact ⟨rfl, _, rfl⟩

theorem at_any (g c n j : Nat) (x : Int) (_hn : n ≤ 1024) (hj : j < n) (w : World) (h : w.cell? ⟨g, j, none⟩ = some (.int .i64 x)) :
    Calls Try.prog 40 #[.slice (some ⟨g, 0, none⟩) n c, .int .i64 j] w fun e w' => e = .returned (.int .i64 x) ∧ w' = w := by
  go_enter Try.func40, Try.ntmps40
  go_wp2
  go_ret
  exact ⟨rfl, rfl⟩

set_option maxHeartbeats 1000000 in
/-- The clock whose own entry has grown by one stands After the clock before. -/
theorem compare_any (g1 c1 g2 c2 n s : Nat) (f : Nat → Int) (hn : n ≤ 1024) (hs : s < n) (w : World) (h1 : ∀ j, j < n → w.cell? ⟨g1, j, none⟩ = some (.int .i64 (if j = s then f s + 1 else f j))) (h2 : ∀ j, j < n → w.cell? ⟨g2, j, none⟩ = some (.int .i64 (f j))) :
    Calls Try.prog 33 #[.slice (some ⟨g1, 0, none⟩) n c1, .slice (some ⟨g2, 0, none⟩) n c2] w fun e w' => e = .returned (.int .i64 2) ∧ w' = w := by
  have H1 : Hid _ := h1
  have H2 : Hid _ := h2
  clear h1 h2
  go_enter Try.func33, Try.ntmps33
  go_wp2
  go_loop [5, 6, 15] (fun b a i => ∃ j : Nat, j ≤ n ∧ i = .int .i64 j ∧ b = .bool false ∧ a = .bool (decide (s < j))) (fun _ _ i => n - (intOf i).toNat)
  case atStart => exact ⟨0, Nat.zero_le _, rfl, rfl, rfl⟩
  case round =>
    obtain ⟨j, hj, rfl, rfl, rfl⟩ := hrel
    by_cases hlt : j < n
    · have q1 := H1.out j hlt
      have q2 := H2.out j hlt
      by_cases e : j = s
      · rw [if_pos e] at q1
        have e0 : decide (s < j) = false := by simp; omega
        have e1 : Hid (decide (s < j + 1) = true) := by simp [Hid]; omega
        rw [e0]
        obtain ⟨x, hx⟩ : ∃ x, x = f s := ⟨_, rfl⟩
        rw [e, ← hx] at q2
        rw [← hx] at q1
        rw [← e] at q2
        clear hx e e0
        go_wp2_with fail
        refine (at_any g1 c1 n j (x + 1) hn hlt w q1).mono ?_
        rintro e w1 ⟨rfl, rfl⟩
        go_wp2_with fail
        refine (at_any g2 c2 n j x hn hlt w1 q2).mono ?_
        rintro e w2 ⟨rfl, rfl⟩
        go_wp2
        go_round
        case rel => exact ⟨j + 1, by omega, by go_num, rfl, by rw [e1.out]⟩
        case measure => simp [intOf]; omega
      · rw [if_neg e] at q1
        have e1 : Hid (decide (s < j + 1) = decide (s < j)) := by rw [Hid, decide_eq_decide]; omega
        obtain ⟨x, hx⟩ : ∃ x, x = f j := ⟨_, rfl⟩
        rw [← hx] at q1 q2
        obtain ⟨b, hb⟩ : ∃ b, b = decide (s < j) := ⟨_, rfl⟩
        rw [← hb]
        have HB : Hid _ := hb
        clear hx e hb
        go_wp2_with fail
        refine (at_any g1 c1 n j x hn hlt w q1).mono ?_
        rintro e w1 ⟨rfl, rfl⟩
        go_wp2_with fail
        refine (at_any g2 c2 n j x hn hlt w1 q2).mono ?_
        rintro e w2 ⟨rfl, rfl⟩
        go_wp2
        go_round
        case rel => exact ⟨j + 1, by omega, by go_num, rfl, by rw [e1.out, ← HB.out]⟩
        case measure => simp [intOf]; omega
    · have e0 : decide (s < j) = true := by simp; omega
      rw [e0]
      clear e0
      go_wp2
      go_ret
      exact ⟨rfl, rfl⟩

theorem cmp_any (g1 c1 g2 c2 n s : Nat) (f : Nat → Int) (hn : n ≤ 1024) (hs : s < n) (w : World) (h1 : ∀ j, j < n → w.cell? ⟨g1, j, none⟩ = some (.int .i64 (if j = s then f s + 1 else f j))) (h2 : ∀ j, j < n → w.cell? ⟨g2, j, none⟩ = some (.int .i64 (f j))) :
    Calls Try.prog 13 #[.slice (some ⟨g1, 0, none⟩) n c1, .slice (some ⟨g2, 0, none⟩) n c2] w fun e w' => e = .returned (.int .i64 2) ∧ w' = w := by
  have hc := fun (_ : Unit) => compare_any g1 c1 g2 c2 n s f hn hs w h1 h2
  have Hc : Hid _ := hc
  clear hc h1 h2
  go_enter Try.func13, Try.ntmps13
  go_wp2_with (go_at_call 33; refine (Hc.out ()).mono ?_; rintro e w1 ⟨rfl, rfl⟩)
  go_ret
  exact ⟨rfl, rfl⟩
end Go.Proofs.Qxb6002705a
