import Derived.Test.Qxb6602040aRows
import Derived.Test.Qxb6602040aShapePlain
import Derived.ProofKit
import Derived.OpenShut
import Derived.ShutString
import Derived.WalkLawsBesides
import Derived.WalkSpells
import Derived.BigQuiet
import Derived.Deep.QuietTactic
/- The walks of zzFnv1a, zzModelShape. -/
namespace Go.Proofs.Qxb6602040a
open Go.RowKit

theorem ret_int {k : IntKind} {a b : Int} (h : a = b) : Ending.returned (.int k a) = .returned (.int k b) := by rw [h]

theorem fnv_any (s : ByteArray) (hs : s.size ≤ 512) (w : World) :
    Calls Try.prog 12 #[.string s] w fun e w' => e = .returned (.int .u64 (fnvK s s.size)) ∧ w' = w := by
  go_enter Try.func12, Try.ntmps12
  go_wp2
  go_loop [3, 4] (fun h i => ∃ k : Nat, k ≤ s.size ∧ i = .int .i64 k ∧ h = .int .u64 (fnvK s k)) (fun _ i => s.size - (intOf i).toNat)
  case atStart => exact ⟨0, Nat.zero_le _, rfl, rfl⟩
  case round =>
    obtain ⟨k, hk, rfl, rfl⟩ := hrel
    by_cases hlt : k < s.size
    · have HB : Hid _ := (dot_of hlt).2.2
      go_wp2
      go_round
      case rel =>
        refine ⟨k + 1, by omega, by go_num, ?_⟩
        rw [fnvK, stp, ← byte_wrap s k, HB.out]
      case measure => simp [intOf]; omega
    · obtain rfl : k = s.size := by omega
      go_wp2
      go_ret
      exact ⟨rfl, rfl⟩

theorem ext_byte (s : ByteArray) (k j : Nat) (_hk : k ≤ s.size) (hj : j < k) : byte (s.extract 0 k) j = byte s j := by
  unfold byte
  have : (s.extract 0 k).data.toList = s.data.toList.take k := by
    simp
  rw [this, List.getD_eq_getElem?_getD, List.getD_eq_getElem?_getD, List.getElem?_take, if_pos hj]
theorem ext_fnv (s : ByteArray) (k j : Nat) (hk : k ≤ s.size) (hj : j ≤ k) : fnvK (s.extract 0 k) j = fnvK s j := by
  induction j with
  | zero => rfl
  | succ j ih => rw [fnvK, fnvK, ih (by omega), ext_byte s k j hk (by omega)]
theorem ext_size (s : ByteArray) (k : Nat) (hk : k ≤ s.size) : (s.extract 0 k).size = k := by
  simp
  omega
theorem fnv_ext (s : ByteArray) (k : Nat) (hk : k ≤ s.size) (hs : s.size ≤ 512) (w : World) :
    Calls Try.prog 12 #[.string (s.extract 0 k)] w fun e w' => e = .returned (.int .u64 (fnvK s k)) ∧ w' = w := by
  have h := fnv_any (s.extract 0 k) (by rw [ext_size s k hk]; omega) w
  rw [ext_size s k hk, ext_fnv s k k hk (Nat.le_refl _)] at h
  exact h

def nvalid (d : Nat → Bool) (n : Nat) : Prop := ¬ valid d n

/-- The two answers. -/
def ansM (s : ByteArray) : Ending := .returned (.tuple #[.int .u64 (fnvK s (keyEnd (dot s) s.size)), .int .i64 (lastd (dot s) s.size), .bool true])
def ansZ : Ending := .returned (.tuple #[.int .u64 0, .int .i64 0, .bool false])

theorem ansM_of {s : ByteArray} {k : Nat} (h : keyEnd (dot s) s.size = k) : ansM s = .returned (.tuple #[.int .u64 (fnvK s k), .int .i64 (lastd (dot s) s.size), .bool true]) := by
  unfold ansM
  rw [h]

theorem model_short (s : ByteArray) (hs : s.size = 0 ∨ 512 < s.size) (hm : s.size ≤ 1048576) (w : World) :
    Calls Try.prog 7 #[.string s] w fun e w' => e = ansZ ∧ w' = w := by
  rcases hs with h | h
  · have t : ((s.size : Int) == 0) = true := by rw [beq_iff_eq]; omega
    clear h
    go_enter Try.func7, Try.ntmps7
    go_wp2
    go_ret3
    exact ⟨rfl, rfl⟩
  · have t : ((s.size : Int) == 0) = false := by rw [beq_eq_false_iff_ne]; omega
    go_enter Try.func7, Try.ntmps7
    go_wp2
    go_ret3
    exact ⟨rfl, rfl⟩

theorem lastd_bd (d : Nat → Bool) (k : Nat) : -1 ≤ lastd d k ∧ lastd d k < k := by
  induction k with
  | zero => simp [lastd]
  | succ k ih =>
    cases hd : d k
    · rw [lastd_miss hd]; omega
    · rw [lastd_hit hd]; omega
theorem secd_bd (d : Nat → Bool) (k : Nat) : -1 ≤ secd d k ∧ (secd d k < k) := by
  have := secd_iff d k
  by_cases h : cntd d k < 2
  · rw [this.1 h]; omega
  · have := this.2 (by omega); omega

set_option maxHeartbeats 1000000 in
theorem model_any (s : ByteArray) (h1 : 1 ≤ s.size) (h2 : s.size ≤ 512) (w : World) :
    Calls Try.prog 7 #[.string s] w fun e w' => ((valid (dot s) s.size ∧ e = ansM s) ∨ (nvalid (dot s) s.size ∧ e = ansZ)) ∧ w' = w := by
  have t0 : ((s.size : Int) == 0) = false := by rw [beq_eq_false_iff_ne]; omega
  have t1 : decide (512 < (s.size : Int)) = false := by simp; omega
  go_enter Try.func7, Try.ntmps7
  go_wp2
  go_loop [5, 6, 7, 8] (fun c l e i => ∃ k : Nat, k ≤ s.size ∧ i = .int .i64 k ∧ c = .int .i64 (cntd (dot s) k) ∧ l = .int .i64 (lastd (dot s) k) ∧ e = .int .i64 (secd (dot s) k) ∧ good (dot s) s.size k) (fun _ _ _ i => s.size - (intOf i).toNat)
  case atStart => exact ⟨0, Nat.zero_le _, rfl, rfl, rfl, rfl, fun j hj => absurd hj (Nat.not_lt_zero _)⟩
  case round =>
    obtain ⟨k, hk, rfl, rfl, rfl, rfl, hg⟩ := hrel
    have Hg : Hid _ := hg
    clear hg
    have hcb := cntd_le (dot s) k
    by_cases hlt : k < s.size
    · have hd1 := (dot_of hlt).1
      cases hd : dot s k
      · rw [hd] at hd1
        have HD : Hid _ := hd
        clear hd
        go_wp2
        go_round
        case rel =>
          refine ⟨k + 1, by omega, by go_num, by rw [cntd_miss HD.out], by rw [lastd_miss HD.out], by rw [secd_miss (by rw [HD.out]; simp)], fun j hj hdj => ?_⟩
          by_cases e : j = k
          · subst e; rw [HD.out] at hdj; cases hdj
          · exact Hg.out j (by omega) hdj
        case measure => simp [intOf]; omega
      · rw [hd] at hd1
        have HD : Hid _ := hd
        clear hd
        by_cases k0 : k = 0
        · have u0 : ((k : Int) == 0) = true := by rw [beq_iff_eq]; omega
          have HK : Hid _ := k0
          clear k0
          go_wp2
          go_ret3
          exact ⟨.inr ⟨fun hv => (hv.2.2.1 k hlt HD.out).1 HK.out, rfl⟩, rfl⟩
        · have u0 : ((k : Int) == 0) = false := by rw [beq_eq_false_iff_ne]; omega
          by_cases kn : k + 1 = s.size
          · have u1 : ((k : Int) == (s.size : Int) - 1) = true := by rw [beq_iff_eq]; omega
            have HK : Hid _ := kn
            clear kn
            go_wp2
            go_ret3
            exact ⟨.inr ⟨fun hv => (hv.2.2.1 k hlt HD.out).2.1 HK.out, rfl⟩, rfl⟩
          · have u1 : ((k : Int) == (s.size : Int) - 1) = false := by rw [beq_eq_false_iff_ne]; omega
            have hd2 := (dot_of (s := s) (k := k - 1) (by omega)).2.1
            cases hp : dot s (k - 1)
            · rw [hp] at hd2
              have HP : Hid _ := hp
              clear hp kn
              have HG : good (dot s) s.size (k + 1) := fun j hj hdj => by
                by_cases e : j = k
                · subst e; exact ⟨k0, by intro e; rw [beq_eq_false_iff_ne] at u1; omega, HP.out⟩
                · exact Hg.out j (by omega) hdj
              by_cases c1 : cntd (dot s) k = 1
              · have u2 : ((cntd (dot s) k : Int) + 1 == 2) = true := by rw [beq_iff_eq]; omega
                have HC : Hid _ := c1
                clear c1
                go_wp2
                go_round
                case rel => exact ⟨k + 1, by omega, by go_num, by rw [cntd_hit HD.out]; go_num, by rw [lastd_hit HD.out], by rw [secd_hit HD.out HC.out], HG⟩
                case measure => simp [intOf]; omega
              · have u2 : ((cntd (dot s) k : Int) + 1 == 2) = false := by rw [beq_eq_false_iff_ne]; omega
                have HC : Hid _ := c1
                clear c1
                go_wp2
                go_round
                case rel => exact ⟨k + 1, by omega, by go_num, by rw [cntd_hit HD.out]; go_num, by rw [lastd_hit HD.out], by rw [secd_miss (fun q => HC.out q.2)], HG⟩
                case measure => simp [intOf]; omega
            · rw [hp] at hd2
              have HP : Hid _ := hp
              clear hp kn
              go_wp2
              go_ret3
              exact ⟨.inr ⟨fun hv => Bool.noConfusion (HP.out.symm.trans (hv.2.2.1 k hlt HD.out).2.2), rfl⟩, rfl⟩
    · obtain rfl : k = s.size := by omega
      by_cases c15 : cntd (dot s) s.size ≤ 15
      · have HV : Hid (valid (dot s) s.size) := ⟨h1, h2, Hg.out, c15⟩
        by_cases c2 : 2 ≤ cntd (dot s) s.size
        · obtain ⟨q1, q2⟩ := (secd_iff (dot s) s.size).2 c2
          obtain ⟨k, hk⟩ : ∃ k : Nat, secd (dot s) s.size = (k : Int) := ⟨(secd (dot s) s.size).toNat, by omega⟩
          rw [hk]
          have hkk : keyEnd (dot s) s.size = k := by unfold keyEnd; rw [if_pos q1, hk]; rfl
          have HK : Hid _ := hkk
          rw [hk] at q2
          clear hk q1 c2 hkk
          go_wp2_with (go_at_call 12; refine (fnv_ext s k (by omega) h2 _).mono ?_; rintro e w' ⟨rfl, rfl⟩)
          go_ret3
          exact ⟨.inl ⟨HV.out, (ansM_of HK.out).symm⟩, rfl⟩
        · have q1 := (secd_iff (dot s) s.size).1 (by omega)
          rw [q1]
          have hkk : keyEnd (dot s) s.size = s.size := by unfold keyEnd; rw [if_neg (by rw [q1]; decide)]
          have HK : Hid _ := hkk
          clear q1 c2 hkk
          go_wp2_with (go_at_call 12; refine (fnv_any s h2 _).mono ?_; rintro e w' ⟨rfl, rfl⟩)
          go_ret3
          exact ⟨.inl ⟨HV.out, (ansM_of HK.out).symm⟩, rfl⟩
      · have HV : Hid (nvalid (dot s) s.size) := fun hv => c15 hv.2.2.2
        go_wp2
        go_ret3
        exact ⟨.inr ⟨HV.out, rfl⟩, rfl⟩
end Go.Proofs.Qxb6602040a
