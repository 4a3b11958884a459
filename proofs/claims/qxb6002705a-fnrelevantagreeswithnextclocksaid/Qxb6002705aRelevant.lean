import Derived.Test.Qxb6002705aRelSt
/- Relevant. -/
namespace Go.Proofs.Qxb6002705a
open Go.RowKit

theorem RSt.append {w wr w1 : World} {t C I n W G L : Nat} {k : Int} {s : Nat} {f1 f2 f3 : Nat → Value} {pv pv' : Value} {m m' : Nat} {xs xs' : List Value}
    (h : RSt w t C I n W G L k s f1 f2 f3 pv m xs wr) (ho : w1.ownsRow (w.heap.size + 1) 36 2 pv' m' xs') (hg : wr.grownBy w1 pv.ownBlock) : RSt w t C I n W G L k s f1 f2 f3 pv' m' xs' w1 := by
  obtain ⟨l1, l2, l3, l4⟩ := h.lt
  have hsz := h.kp.size
  have hb : ∀ q, q < w.heap.size + 1 → w1.heap[q]? = wr.heap[q]? := fun q hq => by
    refine hg.block q (by have := lt_of_block h.r; omega) (fun e => ?_)
    have := (h.own.lt q e.symm).1
    omega
  exact ⟨h.lt, by rw [hb _ (by omega)]; exact h.tk, h.c.of_block (hb _ (by omega)), h.i.of_block (hb _ (by omega)), h.g.of_block (hb _ (by omega)), h.ne, by rw [hb _ (by omega)]; exact h.r, ho,
    ⟨hg.os.trans h.kp.os, hg.tape.trans h.kp.tape, hg.output.trans h.kp.output, Nat.le_trans hsz hg.size, fun q hq hs => (hb q (by omega)).trans (h.kp.block q hq hs)⟩⟩

theorem two_new (w : World) (a b : Value) : ∀ j u, ([a, b] : List Value)[j]? = some u → (w.alloc (.cells #[a, b] 36)).cell? ((⟨w.heap.size, 0, none⟩ : Addr).add j) = some u := by
  intro j u hj
  rw [Addr.add_lit]
  match j, hj with
  | 0, hj => simp at hj; subst hj; unfold World.cell?; rw [heap_alloc_new]; rfl
  | 1, hj => simp at hj; subst hj; unfold World.cell?; rw [heap_alloc_new]; rfl

theorem one_new (w : World) (a : Value) (e : TypeId) : (w.alloc (.cells #[a] e)).drew.cell? ⟨w.heap.size, 0, none⟩ = some a := by
  show (w.alloc (.cells #[a] e)).cell? _ = _
  unfold World.cell?
  rw [heap_alloc_new]
  rfl

theorem zero4 (w : World) : (zeroValue 4).run Try.prog w = .ok (.bool false) w := by kernel_rfl

theorem RSt.fin {w wr : World} {t C I n W G L : Nat} {k : Int} {s : Nat} {f1 f2 f3 : Nat → Value} {pv : Value} {m : Nat} {xs : List Value} (h : RSt w t C I n W G L k s f1 f2 f3 pv m xs wr) (a b : Value) :
    ((wr.setCell ⟨w.heap.size, 0, none⟩ a).setCell ⟨w.heap.size, 1, none⟩ b).drew.ownsRow (w.heap.size + 1) 36 2 pv m xs ∧ ((wr.setCell ⟨w.heap.size, 0, none⟩ a).setCell ⟨w.heap.size, 1, none⟩ b).drew.rowIs C 3 n f1 ∧
    ((wr.setCell ⟨w.heap.size, 0, none⟩ a).setCell ⟨w.heap.size, 1, none⟩ b).drew.rowIs I 4 n f2 ∧ ((wr.setCell ⟨w.heap.size, 0, none⟩ a).setCell ⟨w.heap.size, 1, none⟩ b).drew.rowIs G 50 L f3 ∧
    Keeps (fun b => b = C ∨ b = I ∨ b = G) w ((wr.setCell ⟨w.heap.size, 0, none⟩ a).setCell ⟨w.heap.size, 1, none⟩ b).drew := by
  obtain ⟨l1, l2, l3, l4⟩ := h.lt
  refine ⟨(ownsRow_setCell_below (ownsRow_setCell_below h.own (by simp) a) (by simp) b).drew, ?_, ?_, ?_, ((h.kp.new (Nat.le_refl _) a).new (Nat.le_refl _) b).drew⟩
  · exact (h.c.setOther (by simp; omega) a).setOther (by simp; omega) b
  · exact (h.i.setOther (by simp; omega) a).setOther (by simp; omega) b
  · exact (h.g.setOther (by simp; omega) a).setOther (by simp; omega) b

theorem rel_imm (s n q : Nat) (imm : Nat → Bool) (hq : q < n) : (if q = s then Value.bool true else if 0 ≤ q ∧ q < 0 + n then Value.bool false else Value.bool (imm q)) = .bool (decide (q = s)) := by
  by_cases h : q = s
  · rw [if_pos h, decide_eq_true h]
  · rw [if_neg h, if_pos (by omega), decide_eq_false h]

set_option maxHeartbeats 2000000 in
theorem relevant_loop (t C I n W G L : Nat) (k : Int) (s : Nat) (clk : Nat → Int) (imm : Nat → Bool) (mat : Nat → Int) (hn : n ≤ 1024) (hs : s < n) (hclk : ∀ j, j < n → 0 ≤ clk j ∧ clk j ≤ 1073741824)
    (hWb : 1 ≤ W ∧ W ≤ 17) (hL : n * W = L) (w : World)
    (ht : w.heap[t]? = some (tkO k s C I n W G L)) (hC : w.rowIs C 3 n (fun j => .int .i64 (clk j))) (hI : w.rowIs I 4 n (fun j => .bool (imm j))) (hG : w.rowIs G 50 L (fun j => .int .u64 (mat j))) :
    Calls Try.prog 21 #[.pointer (some ⟨t, 0, none⟩)] w fun e w' => ∃ pv, e = .returned (.tuple #[.agg #[.int .i64 s, .int .i64 (clk s + 1)], pv]) ∧ w'.ownsRow (w.heap.size + 1) 36 2 pv (cnt imm n) (evs clk imm n) ∧
      w'.rowIs C 3 n (fun j => .int .i64 (if j = s then clk s + 1 else clk j)) ∧ w'.rowIs I 4 n (fun j => .bool (decide (j = s))) ∧
      w'.rowIs G 50 L (fun j => .int .u64 (if k = 2 ∨ k = 3 then clr mat s (s * W) W j else mat j)) ∧ Keeps (fun b => b = C ∨ b = I ∨ b = G) w w' := by
  have hst := RSt.start ht hC hI hG
  have HL : Hid _ := hL
  clear hL
  have h3 := tk3 hst.tk
  obtain ⟨i0, hi, hz0, hz1, hz2⟩ := info_parts info36
  clear ht hC hI hG
  go_enter Try.func21, Try.ntmps21
  go_wp2
  go_loopw [4, 12] (fun v i wr => ∃ j : Nat, j ≤ n ∧ i = .int .i64 j ∧ RSt w t C I n W G L k s (fun j => .int .i64 (clk j)) (fun j => .bool (imm j)) (fun j => .int .u64 (mat j)) v (cnt imm j) (evs clk imm j) wr) (fun _ i _ => n - (intOf i).toNat)
  case atStart => exact ⟨0, Nat.zero_le _, rfl, hst⟩
  case round =>
    clear hst h3
    obtain ⟨j, hj, rfl, hR⟩ := hrel
    have h2 := tk2 hR.tk
    by_cases hlt : j < n
    · have ci := hR.i.cell hlt
      have cc := hR.c.cell hlt
      have hcb := hclk j hlt
      by_cases him : imm j = true
      · rw [him] at ci
        have hcl := cnt_le imm j
        have hsz : w.heap.size + 1 ≤ (wr.alloc (.cells #[.int .i64 j, .int .i64 (clk j)] 36)).heap.size := by have := lt_of_block hR.r; simp; omega
        have HT : Hid _ := two_new wr (.int .i64 j) (.int .i64 (clk j))
        go_wp2_with (at_builtin; refine wpList_append_own _ rfl (.tmp 18) (.tmp 28) 37 rfl (w.heap.size + 1) 36 i0 (.agg #[.int .i64 0, .int .i64 0]) 2 16 Try.underlying37 hi hz0 hz1 hz2 rfl (by decide) _ _ _ rfl (hR.own.alloc _) ⟨wr.heap.size, 0, none⟩ 1 1 [.int .i64 j, .int .i64 (clk j)] rfl rfl HT.out (by intro u hu; simp at hu; rcases hu with rfl | rfl <;> rfl) (by unfold maxLen; omega) (by omega) hsz ?_; intro v' w1 hown' hgrow _)
        have R := (hR.alloc (.cells #[.int .i64 j, .int .i64 (clk j)] 36)).append hown' hgrow
        rw [← (evs_hit (clk := clk) him).1, ← (evs_hit (clk := clk) him).2] at R
        clear hown' hgrow hR hsz HT hcl
        go_wp2
        go_roundw
        case rel => exact ⟨j + 1, by omega, by go_num, R⟩
        case measure => simp [intOf]; omega
      · have him : imm j = false := by simpa using him
        rw [him] at ci
        have R := hR
        rw [← (evs_miss (clk := clk) him).1, ← (evs_miss (clk := clk) him).2] at R
        clear hR
        go_wp2
        go_roundw
        case rel => exact ⟨j + 1, by omega, by go_num, R⟩
        case measure => simp [intOf]; omega
    · obtain rfl : j = n := by omega
      have h1 := tk1 hR.tk
      have cc := hR.c.cell hs
      have fc := hR.c.frozen s
      have hcb := hclk s hs
      have hi0 : (0 : Int) ≤ (s : Int) := by omega
      have hi1 : (s : Int) < (j : Int) := by omega
      have hwr : IntKind.i64.wrap (clk s + 1) = clk s + 1 := by rw [IntKind.wrap_i64]; omega
      go_wp2
      go_region
      have R1 := (hR.setC s (.int .i64 (clk s + 1))).drew
      obtain ⟨W1, hW1⟩ : ∃ W1, W1 = (wr.setCell ⟨C, s, none⟩ (.int .i64 (clk s + 1))).drew := ⟨_, rfl⟩
      rw [← hW1] at R1 ⊢
      clear hW1 hR cc fc hcb h1 h2 hwr
      have h3 := tk3 R1.tk
      have hcl : ∀ ty, (Builtin.clear_ #[29] ty #[.slice (some ⟨I, 0, none⟩) j j]).run Try.prog W1 = .ok (.tuple #[]) (W1.setCells I 0 (List.replicate j (.bool false))) :=
        fun ty => Lib.run_clear_slice W1 29 4 ty (.bool false) Try.underlying29 zero4 rfl rfl I 0 j j (by omega) (fun q hq => by rw [Nat.zero_add, R1.i.cell hq]; rfl) (fun q _ => by rw [Nat.zero_add]; exact R1.i.frozen q)
      go_wp2
      have R2 := (RSt.fillI (.bool false) j 0 W1 _ R1)
      obtain ⟨W2, hW2⟩ : ∃ W2, W2 = W1.setCells I 0 (List.replicate j (.bool false)) := ⟨_, rfl⟩
      rw [← hW2] at R2 ⊢
      clear hW2 hcl R1 h3
      have h1 := tk1 R2.tk
      have h3 := tk3 R2.tk
      have ci := R2.i.cell hs
      have fi := R2.i.frozen s
      go_region
      have R3 := ((R2.setI s (.bool true)).drew).congr (f1' := fun q => .int .i64 (if q = s then clk s + 1 else clk q)) (f2' := fun q => .bool (decide (q = s))) (f3' := fun q => .int .u64 (mat q))
        (fun q _ => by split <;> rfl) (fun q hq => rel_imm s j q imm hq) (fun _ _ => rfl)
      obtain ⟨W3, hW3⟩ : ∃ W3, W3 = (W2.setCell ⟨I, s, none⟩ (.bool true)).drew := ⟨_, rfl⟩
      rw [← hW3] at R3 ⊢
      clear hW3 R2 ci fi h1 h3
      have h0 := tk0 R3.tk
      by_cases hk : k = 2 ∨ k = 3
      · have HC : Hid _ := fun w => keepsMatrix_any k w
        rw [decide_eq_true hk] at HC
        go_wp2_with (go_at_call 36; refine (HC.out _).mono ?_; rintro e W4 ⟨rfl, rfl⟩)
        clear h0
        have h1 := tk1 R3.tk
        have h4 := tk4 R3.tk
        have h5 := tk5 R3.tk
        have hW4 := lt_of_block R3.tk
        obtain ⟨p, hp⟩ : ∃ p, p = s * W := ⟨_, rfl⟩
        have hpW : p + W ≤ L := by rw [← HL.out, hp, ← Nat.succ_mul]; exact Nat.mul_le_mul_right _ hs
        have hLb : L ≤ 17408 := by rw [← HL.out]; exact Nat.mul_le_mul hn hWb.2
        have hclr := fun (_ : Unit) => clearColumn_any G W L s p W4.heap.size s mat hp.symm hpW (by omega) (by omega) hWb.1 (by omega) (by omega) ((W4.alloc (.cells #[.int .i64 s] 3)).drew) (R3.g.alloc _) (one_new W4 _ _) (Nat.ne_of_gt R3.g.lt)
        have Hclr : Hid _ := hclr
        clear hclr
        have R4 := (R3.alloc (.cells #[.int .i64 s] 3)).drew
        go_region_with (go_at_call 37; refine (Hclr.out ()).mono ?_; rintro e w4 ⟨rfl, hg4, hk4⟩)
        all_goals
          have R5 := R4.col hg4 hk4
          rw [hp] at R5
          clear hg4 hk4
          have h1 := tk1 R5.tk
          have h2 := tk2 R5.tk
          have cc := R5.c.cell hs
          simp only [if_true] at cc
          have r0 : w4.cell? ⟨w.heap.size, 0, none⟩ = some (.int .i64 0) := by simp [World.cell?, R5.r]
          have r1 : w4.cell? ⟨w.heap.size, 1, none⟩ = some (.int .i64 0) := by simp [World.cell?, R5.r]
          have q0 : w4.frozen? ⟨w.heap.size, 0, none⟩ = false := by simp [World.frozen?, R5.r]
          have q1 : w4.frozen? ⟨w.heap.size, 1, none⟩ = false := by simp [World.frozen?, R5.r]
          clear R3 R4 h4 h5 hpW hLb Hclr
          go_wp2
          go_region
          go_wp2
          exact bodyPost_ret (v := .tuple #[.agg #[.int .i64 s, .int .i64 (clk s + 1)], u4]) (by simp [results, Try.results21, go_sem, r0, r1]) rfl ⟨u4, rfl, R5.fin _ _⟩
      · have hc := fun w => keepsMatrix_any k w
        rw [decide_eq_false hk] at hc
        have HC : Hid _ := hc
        clear hc
        go_wp2_with (go_at_call 36; refine (HC.out _).mono ?_; rintro e W4 ⟨rfl, rfl⟩)
        clear h0
        have h1 := tk1 R3.tk
        have h2 := tk2 R3.tk
        have cc := R3.c.cell hs
        simp only [if_true] at cc
        have r0 : W4.cell? ⟨w.heap.size, 0, none⟩ = some (.int .i64 0) := by simp [World.cell?, R3.r]
        have r1 : W4.cell? ⟨w.heap.size, 1, none⟩ = some (.int .i64 0) := by simp [World.cell?, R3.r]
        have q0 : W4.frozen? ⟨w.heap.size, 0, none⟩ = false := by simp [World.frozen?, R3.r]
        have q1 : W4.frozen? ⟨w.heap.size, 1, none⟩ = false := by simp [World.frozen?, R3.r]
        go_region
        go_wp2
        exact bodyPost_ret (v := .tuple #[.agg #[.int .i64 s, .int .i64 (clk s + 1)], u4]) (by simp [results, Try.results21, go_sem, r0, r1]) rfl ⟨u4, rfl, R3.fin _ _⟩
end Go.Proofs.Qxb6002705a
