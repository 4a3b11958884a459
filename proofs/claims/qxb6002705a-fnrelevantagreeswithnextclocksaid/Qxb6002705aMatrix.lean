import Derived.Test.Qxb6002705aBase
import Derived.Test.Qxb6002705aPlain
/- newBoolMatrix and what it calls. -/
namespace Go.Proofs.Qxb6002705a
open Go.RowKit

theorem ceilDiv_any (n : Nat) (hn : n ≤ 1024) (w : World) :
    Calls Try.prog 44 #[.int .i64 n, .int .i64 64] w fun e w' => e = .returned (.int .i64 (cd n)) ∧ ∃ k, w' = w.drewN k := by
  go_enter Try.func44, Try.ntmps44
  go_wp2
  go_region
  go_wp2
  · go_ret
    exact ⟨ret_int (by unfold cd; omega), 1, rfl⟩
  · go_ret
    exact ⟨ret_int (by unfold cd; omega), 1, rfl⟩

theorem setWords_any (n : Nat) (hn : n ≤ 1024) (w : World) :
    Calls Try.prog 41 #[.int .i64 n] w fun e w' => e = .returned (.int .i64 (cd n)) ∧ ∃ k, w' = w.drewN k := by
  go_enter Try.func41, Try.ntmps41
  go_wp2_with (go_at_call 44; refine (ceilDiv_any _ hn _).mono ?_; rintro e w' ⟨rfl, k, rfl⟩)
  go_ret
  exact ⟨rfl, _, rfl⟩

theorem column_any (g W L c p : Nat) (hp : c * W = p) (hL : p + W ≤ L) (hL2 : L ≤ 1000000) (hlt : p < L) (hW : W ≤ 1000) (hc : c ≤ 1024) (w : World) :
    Calls Try.prog 42 #[.agg #[.int .i64 W, .slice (some ⟨g, 0, none⟩) L L], .int .i64 c] w fun e w' =>
      e = .returned (.slice (some ⟨g, p, none⟩) W (L - p)) ∧ w' = w.alloc (.cells #[.int .i64 W, .slice (some ⟨g, 0, none⟩) L L] 56) := by
  have e1 : (c : Int) * (W : Int) = (p : Int) := by rw [← hp]; simp
  have e2 : ((c : Int) + 1) * (W : Int) = (p : Int) + W := by rw [Int.add_mul, e1]; simp
  clear hp
  go_enter Try.func42, Try.ntmps42
  go_wp2
  go_ret
  have e3 : p + W - p = W := by omega
  refine ⟨?_, rfl⟩
  show Ending.returned (.slice _ (p + W - p) _) = _
  rw [e3]



/-- The blocks that newBoolMatrix lays: the result, m, and the bits. -/
structure Mat (N W L : Nat) (wr : World) (f : Nat → Value) : Prop where
  res : wr.heap[N]? = some (.cells #[.int .i64 0, .slice none 0 0] 56 (0, 0))
  m : wr.heap[N + 1]? = some (.cells #[.int .i64 W, .slice (some ⟨N + 1 + 1, 0, none⟩) L L] 56 (0, 0))
  row : wr.rowIs (N + 1 + 1) 50 L f

theorem Mat.lt {N W L : Nat} {wr : World} {f : Nat → Value} (h : Mat N W L wr f) : N + 1 + 1 < wr.heap.size := h.row.lt
theorem Mat.c0 {N W L : Nat} {wr : World} {f : Nat → Value} (h : Mat N W L wr f) : wr.cell? ⟨N + 1, 0, none⟩ = some (.int .i64 W) := by simp [World.cell?, h.m]
theorem Mat.c1 {N W L : Nat} {wr : World} {f : Nat → Value} (h : Mat N W L wr f) : wr.cell? ⟨N + 1, 1, none⟩ = some (.slice (some ⟨N + 1 + 1, 0, none⟩) L L) := by simp [World.cell?, h.m]
theorem Mat.r0 {N W L : Nat} {wr : World} {f : Nat → Value} (h : Mat N W L wr f) : wr.cell? ⟨N, 0, none⟩ = some (.int .i64 0) := by simp [World.cell?, h.res]
theorem Mat.r1 {N W L : Nat} {wr : World} {f : Nat → Value} (h : Mat N W L wr f) : wr.cell? ⟨N, 1, none⟩ = some (.slice none 0 0) := by simp [World.cell?, h.res]
theorem Mat.rf {N W L : Nat} {wr : World} {f : Nat → Value} (h : Mat N W L wr f) (i : Nat) : wr.frozen? ⟨N, i, none⟩ = false := by simp [World.frozen?, h.res]
theorem Mat.alloc {N W L : Nat} {wr : World} {f : Nat → Value} (h : Mat N W L wr f) (o : Obj) : Mat N W L (wr.alloc o) f := by
  have := h.lt
  exact ⟨by rw [Below.heap_alloc _ _ _ (by omega)]; exact h.res, by rw [Below.heap_alloc _ _ _ (by omega)]; exact h.m, h.row.alloc o⟩
theorem Mat.set {N W L : Nat} {wr : World} {f : Nat → Value} (h : Mat N W L wr f) (i : Nat) (v : Value) : Mat N W L (wr.setCell ⟨N + 1 + 1, i, none⟩ v) (fun j => if j = i then v else f j) :=
  ⟨by rw [Below.heap_setCell _ _ _ _ (by simp; omega)]; exact h.res, by rw [Below.heap_setCell _ _ _ _ (by simp)]; exact h.m, h.row.set i v⟩
theorem Mat.congr {N W L : Nat} {wr : World} {f g : Nat → Value} (h : Mat N W L wr f) (e : ∀ i, i < L → f i = g i) : Mat N W L wr g := ⟨h.res, h.m, h.row.congr e⟩
theorem Mat.drew {N W L : Nat} {wr : World} {f : Nat → Value} (h : Mat N W L wr f) : Mat N W L wr.drew f := ⟨h.res, h.m, h.row⟩



theorem mat_start (w : World) (k W L : Nat) : Mat w.heap.size W L ((((w.alloc (Obj.cells #[Value.int IntKind.i64 0, Value.slice none 0 0] 56)).drewN k).alloc
      (Obj.cells #[Value.int IntKind.i64 W, Value.slice (some { block := w.heap.size + 1 + 1, off := 0 }) L L] 56)).alloc (Obj.cells (madeCells #[Value.int IntKind.u64 0] L) 50)) (fillK 0) := by
  have s1 : ((w.alloc (Obj.cells #[Value.int IntKind.i64 0, Value.slice none 0 0] 56)).drewN k).heap.size = w.heap.size + 1 := by
    show (w.heap.push _).size = _
    simp
  refine ⟨?_, ?_, ?_⟩
  · rw [Below.heap_alloc _ _ _ (by simp; omega), Below.heap_alloc _ _ _ (by simp)]
    exact heap_alloc_new w _
  · rw [Below.heap_alloc _ _ _ (by simp)]
    have := heap_alloc_new ((w.alloc (Obj.cells #[Value.int IntKind.i64 0, Value.slice none 0 0] 56)).drewN k) (Obj.cells #[Value.int IntKind.i64 W, Value.slice (some { block := w.heap.size + 1 + 1, off := 0 }) L L] 56)
    rw [s1] at this
    exact this
  · have := World.rowIs_made (((w.alloc (Obj.cells #[Value.int IntKind.i64 0, Value.slice none 0 0] 56)).drewN k).alloc
      (Obj.cells #[Value.int IntKind.i64 W, Value.slice (some { block := w.heap.size + 1 + 1, off := 0 }) L L] 56)) (Value.int IntKind.u64 0) L 50
    have s2 : (((w.alloc (Obj.cells #[Value.int IntKind.i64 0, Value.slice none 0 0] 56)).drewN k).alloc
      (Obj.cells #[Value.int IntKind.i64 W, Value.slice (some { block := w.heap.size + 1 + 1, off := 0 }) L L] 56)).heap.size = w.heap.size + 1 + 1 := by
      show (((w.heap.push _)).push _).size = _
      simp
    rw [s2] at this
    exact this

theorem below_start (w : World) (k : Nat) (o1 o2 o3 : Obj) : Below w.heap.size w ((((w.alloc o1).drewN k).alloc o2).alloc o3) :=
  ((bel_drewN ((Below.refl _ _).alloc (Nat.le_refl _) _) k).alloc (by simp) _).alloc (by simp; omega) _

theorem mat_step {N W k n c p : Nat} {wr : World} (hM : Mat N W k wr (fill2 n W c)) (hW : cd n = W) (hz : ¬ n % 64 = 0) (hp : c * W = p) (o : Obj) :
    Mat N W k ((wr.setCell ⟨N + 1 + 1, p + (W - 1), none⟩ (.int .u64 (IntKind.u64.wrap (IntKind.u64.wrap (2 ^ (n % 64)) - 1)))).alloc o).drew (fill2 n W (c + 1)) := by
  refine (((hM.set _ _).congr fun j _ => ?_).alloc _).drew
  rw [lastword, ← hp]
  exact fill2_step n W c hW hz j

/-- The end of newBoolMatrix: the result is stored. -/
theorem mat_end {N W L : Nat} {wr : World} {f : Nat → Value} (h : Mat N W L wr f) (a b : Value) :
    ((wr.setCell ⟨N, 0, none⟩ a).setCell ⟨N, 1, none⟩ b).rowIs (N + 1 + 1) 50 L f :=
  (h.row.setOther (by simp; omega) _).setOther (by simp; omega) _

set_option maxHeartbeats 1000000 in
theorem newBoolMatrix_any (n L : Nat) (hL : n * cd n = L) (hn : n ≤ 1024) (w : World) :
    Calls Try.prog 35 #[.int .i64 n] w fun e w' => ∃ g, w.heap.size ≤ g ∧ e = .returned (.agg #[.int .i64 (cd n), .slice (some ⟨g, 0, none⟩) L L]) ∧
       w'.rowIs g 50 L (fun i => .int .u64 (word n (i % cd n))) ∧ Below w.heap.size w w' := by
  have hc := cd_le n
  have hLb : L ≤ 17408 := by rw [← hL]; exact Nat.mul_le_mul hn (by omega : cd n ≤ 17)
  have e1 : (n : Int) * (cd n : Int) = (L : Int) := by rw [← hL]; simp
  generalize hW : cd n = W at *
  have hmk := fun w => run_make_row' (P := Try.prog) 42 50 (.int .u64 0) 8 Try.underlying42 info50 rfl .i64 .i64 L (by omega) (by omega) w
  have hW' : Hid (cd n = W) := hW
  have hL' : Hid (n * W = L) := hL
  clear hL hW
  go_enter Try.func35, Try.ntmps35
  go_wp2_with (go_at_call 41; refine (setWords_any n hn _).mono ?_; rintro e w' ⟨rfl, k, rfl⟩; rw [hW'.out])
  go_loopw [19] (fun i wr => ∃ k : Nat, k ≤ L ∧ i = .int .i64 k ∧ Mat w.heap.size W L wr (fillK k) ∧ Below w.heap.size w wr) (fun i _ => L - (intOf i).toNat)
  case atStart => exact ⟨0, Nat.zero_le _, rfl, mat_start w k W L, below_start w k _ _ _⟩
  case round =>
    obtain ⟨k, hk, rfl, hM, hB⟩ := hrel
    have c0 := hM.c0
    have c1 := hM.c1
    by_cases hlt : k < L
    · have cw := hM.row.cell hlt
      have fw := hM.row.frozen k
      go_wp2
      go_roundw
      case rel =>
        exact ⟨k + 1, by omega, by go_num, (hM.set k _).congr (fun i _ => fillK_step k i), hB.setCell (by simp; omega) _⟩
      case measure => simp [intOf]; omega
    · have r0 := hM.r0
      have r1 := hM.r1
      have f0 := hM.rf 0
      have f1 := hM.rf 1
      obtain rfl : k = L := by omega
      have hMk : Mat w.heap.size W k wr (fill2 n W 0) := hM.congr (fun j hj => fill2_zero n W k j hj)
      clear hM
      by_cases hz : n % 64 = 0
      · go_wp2
        refine bodyPost_ret (v := .agg #[.int .i64 W, .slice (some ⟨w.heap.size + 1 + 1, 0, none⟩) k k]) (by simp [results, Try.results35, go_sem, r0, r1]) rfl ⟨w.heap.size + 1 + 1, by omega, rfl, ?_, (hB.setCell (Nat.le_refl _) _).setCell (Nat.le_refl _) _⟩
        exact (mat_end hMk _ _).congr (fun j _ => fill2_even n W hz j)
      · have hzb : ((n : Int) % 64 != 0) = true := by simp; omega
        go_wp2
        clear r0 r1 f0 f1
        obtain ⟨wo, rfl⟩ : ∃ wo : World, wo = wr := ⟨_, rfl⟩
        go_loopw [32] (fun i wr => ∃ c : Nat, c ≤ n ∧ i = .int .i64 c ∧ Mat w.heap.size W k wr (fill2 n W c) ∧ Below w.heap.size w wr) (fun i _ => n - (intOf i).toNat)
        case atStart => exact ⟨0, Nat.zero_le _, rfl, hMk, hB⟩
        case round =>
          clear hMk hB c0 c1
          obtain ⟨c, hc', rfl, hM, hB⟩ := hrel
          have c0 := hM.c0
          have c1 := hM.c1
          by_cases hlt2 : c < n
          · obtain ⟨p, hp⟩ : ∃ p, p = c * W := ⟨_, rfl⟩
            have hpW : p + W ≤ k := by rw [← hL'.out, hp, ← Nat.succ_mul]; exact Nat.mul_le_mul_right _ hlt2
            have HP : Hid (c * W = p) := hp.symm
            clear hp
            have hi0 : (0 : Int) ≤ (W : Int) - 1 := by omega
            have hi1 : (W : Int) - 1 < (W : Int) := by omega
            have hi2 : ((W : Int) - 1).toNat = W - 1 := by omega
            have hwr : IntKind.i64.wrap ((W : Int) - 1) = (W : Int) - 1 := by rw [IntKind.wrap_i64]; omega
            have hsz := hM.lt
            have hsz1 : w.heap.size + 1 < wr.heap.size := by omega
            have cw := hM.row.cell (i := p + (W - 1)) (by omega)
            have fw := hM.row.frozen (p + (W - 1))
            go_wp2
            go_region_with (go_at_call 42; refine (column_any _ _ _ _ p HP.out (by omega) (by omega) (by omega) (by omega) (by omega) _).mono ?_; rintro e w' ⟨rfl, rfl⟩)
            all_goals
              go_wp2
              go_roundw
              case rel =>
                exact ⟨c + 1, by omega, by go_num, mat_step hM hW'.out hz HP.out _, ((hB.setCell (by simp; omega) _).alloc (by have := hB.size; simpa using this) _).drew⟩
              case measure => simp [intOf]; omega
          · have r0 := hM.r0
            have r1 := hM.r1
            have f0 := hM.rf 0
            have f1 := hM.rf 1
            obtain rfl : c = n := by omega
            go_wp2
            refine bodyPost_ret (v := .agg #[.int .i64 W, .slice (some ⟨w.heap.size + 1 + 1, 0, none⟩) k k]) (by simp [results, Try.results35, go_sem, r0, r1]) rfl ⟨w.heap.size + 1 + 1, by omega, rfl, ?_, (hB.setCell (Nat.le_refl _) _).setCell (Nat.le_refl _) _⟩
            exact (mat_end hM _ _).congr (fun j hj => fill2_end c W k hL'.out j hj)
end Go.Proofs.Qxb6002705a
