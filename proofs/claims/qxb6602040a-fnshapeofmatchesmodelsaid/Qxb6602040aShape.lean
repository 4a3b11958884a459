import Derived.Test.Qxb6602040aModel
/- The walk of shapeOf. -/
namespace Go.Proofs.Qxb6602040a
open Go.RowKit

theorem hash_zero (s : ByteArray) (d : Nat → Bool) : hashAt s d 0 0 = 14695981039346656037 := by
  unfold hashAt
  rw [if_pos (show cntd d 0 < 2 from Nat.zero_lt_two)]
  rfl
theorem hash_lt {s : ByteArray} {d : Nat → Bool} {k e : Nat} (h : cntd d k < 2) : hashAt s d k e = fnvK s e := by unfold hashAt; rw [if_pos h]
theorem hash_ge {s : ByteArray} {d : Nat → Bool} {k e f : Nat} (h : ¬ cntd d k < 2) : hashAt s d k e = hashAt s d k f := by unfold hashAt; rw [if_neg h, if_neg h]
theorem dot_byte {s : ByteArray} {e : Nat} (h : dot s e = true) : byte s e = 46 := by
  unfold dot at h
  have h1 : s.data.toList[e]? = some 46 := by simpa using h
  unfold byte
  rw [List.getD_eq_getElem?_getD, h1]
  rfl

def shpM (s : ByteArray) : Ending := .returned (.tuple #[.agg #[.int .u64 (fnvK s (keyEnd (dot s) s.size)), .int .i64 (lastd (dot s) s.size)], .bool true])
def shpZ : Ending := .returned (.tuple #[.agg #[.int .u64 0, .int .i64 0], .bool false])

theorem shpM_of {s : ByteArray} {k : Nat} {H : Int} (hk : k ≤ s.size) (hq : ∀ q, k ≤ q → q < s.size → dot s q = false) (hH : H = hashAt s (dot s) k s.size) :
    Ending.returned (.tuple #[.agg #[.int .u64 H, .int .i64 (lastd (dot s) k)], .bool true]) = shpM s := by
  unfold shpM
  rw [hH, hash_end hk hq, (quiet (dot s) k s.size hk hq).2.1]

theorem shape_long (s : ByteArray) (hs : 512 < s.size) (hm : s.size ≤ 1048576) (w : World) :
    Calls Try.prog 11 #[.string s] w fun e w' => e = shpZ ∧ Grown w w' := by
  go_enter Try.func11, Try.ntmps11
  go_wp2
  exact bodyPost_ret (v := .tuple #[.agg #[.int .u64 0, .int .i64 0], .bool false]) (by simp [results, Try.results11, go_sem]) rfl ⟨rfl, (Grown.refl _).alloc _ _⟩

set_option maxHeartbeats 2000000 in
theorem shape_any (s : ByteArray) (hs : s.size ≤ 512) (w : World) :
    Calls Try.prog 11 #[.string s] w fun e w' => ((valid (dot s) s.size ∧ e = shpM s) ∨ (nvalid (dot s) s.size ∧ e = shpZ)) ∧ Grown w w' := by
  have t1 : decide (512 < (s.size : Int)) = false := by simp; omega
  go_enter Try.func11, Try.ntmps11
  go_wp2
  go_loop [4, 5, 6, 7] (fun h l c i => ∃ k : Nat, Beg (dot s) s.size k ∧ i = .int .i64 k ∧ c = .int .i64 (cntd (dot s) k) ∧ l = .int .i64 (lastd (dot s) k) ∧ h = .int .u64 (hashAt s (dot s) k k) ∧ cntd (dot s) k ≤ 16) (fun _ _ _ i => s.size + 1 - (intOf i).toNat)
  case atStart => exact ⟨0, Beg.zero _ _, rfl, rfl, rfl, by rw [hash_zero], Nat.zero_le _⟩
  case round =>
    obtain ⟨k, hB, rfl, rfl, rfl, rfl, hc16⟩ := hrel
    have hk := hB.le
    have HB : Hid _ := fun (_ : Unit) => hB
    clear hB
    by_cases hp2 : cntd (dot s) k < 2
    · rw [hash_lt hp2]
      go_wp2
      go_loop [4, 8] (fun h j => ∃ e : Nat, k ≤ e ∧ e ≤ s.size ∧ j = .int .i64 e ∧ h = .int .u64 (fnvK s e) ∧ Hid (∀ q, k ≤ q → q < e → dot s q = false)) (fun _ j => s.size - (intOf j).toNat)
      case atStart => exact ⟨k, Nat.le_refl _, hk, rfl, rfl, fun q a b => by omega⟩
      case round =>
        obtain ⟨e, hke, hen, rfl, rfl, hq⟩ := hrel
        by_cases hlt : e < s.size
        · have hd1 := (dot_of hlt).1
          have HY : Hid _ := (dot_of hlt).2.2
          cases hd : dot s e
          · rw [hd] at hd1
            have HD : Hid _ := hd
            clear hd
            go_wp2
            go_round
            case rel =>
              refine ⟨e + 1, by omega, by omega, by go_num, by rw [fnvK, stp, ← byte_wrap s e, HY.out], fun q a b => ?_⟩
              by_cases c : q = e
              · rw [c]; exact HD.out
              · exact hq.out q a (by omega)
            case measure => simp [intOf]; omega
          · rw [hd] at hd1
            have HD : Hid _ := hd
            clear hd
            by_cases ek : e = k
            · have u1 : ((e : Int) == (k : Int)) = true := by rw [beq_iff_eq]; omega
              have HV : Hid (nvalid (dot s) s.size) := (HB.out ()).empty (Or.inr (by rw [← ek]; exact HD.out)) (dot_out s _ (Nat.le_refl _))
              clear ek
              go_wp2
              exact bodyPost_ret (v := .tuple #[.agg #[.int .u64 0, .int .i64 0], .bool false]) (by simp [results, Try.results11, go_sem]) rfl ⟨.inr ⟨HV.out, rfl⟩, (Grown.refl _).alloc _ _⟩
            · have u1 : ((e : Int) == (k : Int)) = false := by rw [beq_eq_false_iff_ne]; omega
              have u2 : ((cntd (dot s) k : Int) == 16) = false := by rw [beq_eq_false_iff_ne]; omega
              have un : ((e : Int) == (s.size : Int)) = false := by rw [beq_eq_false_iff_ne]; omega
              have HE : Hid _ := fun (_ : Unit) => (HB.out ()).next (by omega) hlt hq.out HD.out
              have HC : Hid (cntd (dot s) (e + 1) = cntd (dot s) k + 1) := by rw [cntd_hit HD.out, (quiet (dot s) k e hke hq.out).1]; rfl
              have HL : Hid (lastd (dot s) (e + 1) = (e : Int)) := lastd_hit HD.out
              by_cases c0 : cntd (dot s) k = 0
              · have u3 : ((cntd (dot s) k : Int) + 1 == 1) = true := by rw [beq_iff_eq]; omega
                have HN : Hid (stp (fnvK s e) 46 = hashAt s (dot s) (e + 1) (e + 1)) := by
                  have := (hash_next (s := s) (by omega) hq.out HD.out).1 c0
                  rw [hash_lt hp2, dot_byte HD.out] at this
                  exact this.symm
                clear c0
                go_wp2
                go_round
                case rel => exact ⟨e + 1, HE.out (), by go_num, by rw [HC.out]; go_num, by rw [HL.out], by rw [← HN.out]; rfl, by rw [HC.out]; omega⟩
                case measure => simp [intOf]; omega
              · have u3 : ((cntd (dot s) k : Int) + 1 == 1) = false := by rw [beq_eq_false_iff_ne]; omega
                have HN : Hid (fnvK s e = hashAt s (dot s) (e + 1) (e + 1)) := by
                  have := (hash_next (s := s) (by omega) hq.out HD.out).2 c0
                  rw [hash_lt hp2] at this
                  exact this.symm
                clear c0
                go_wp2
                go_round
                case rel => exact ⟨e + 1, HE.out (), by go_num, by rw [HC.out]; go_num, by rw [HL.out], by rw [← HN.out], by rw [HC.out]; omega⟩
                case measure => simp [intOf]; omega
        · obtain rfl : e = s.size := by omega
          by_cases ek : s.size = k
          · have u1 : ((s.size : Int) == (k : Int)) = true := by rw [beq_iff_eq]; omega
            have HV : Hid (nvalid (dot s) s.size) := (HB.out ()).empty (Or.inl ek.symm) (dot_out s _ (Nat.le_refl _))
            clear ek
            go_wp2
            exact bodyPost_ret (v := .tuple #[.agg #[.int .u64 0, .int .i64 0], .bool false]) (by simp [results, Try.results11, go_sem]) rfl ⟨.inr ⟨HV.out, rfl⟩, (Grown.refl _).alloc _ _⟩
          · have u1 : ((s.size : Int) == (k : Int)) = false := by rw [beq_eq_false_iff_ne]; omega
            have u2 : ((cntd (dot s) k : Int) == 16) = false := by rw [beq_eq_false_iff_ne]; omega
            have HV : Hid (valid (dot s) s.size) := (HB.out ()).last (by omega) hs hq.out (by omega)
            have HM : Hid (Ending.returned (.tuple #[.agg #[.int .u64 (fnvK s s.size), .int .i64 (lastd (dot s) k)], .bool true]) = shpM s) := shpM_of hk hq.out ((hash_lt hp2).symm)
            go_wp2
            exact bodyPost_ret (v := .tuple #[.agg #[.int .u64 (fnvK s s.size), .int .i64 (lastd (dot s) k)], .bool true]) (by simp [results, Try.results11, go_sem]) rfl ⟨.inl ⟨HV.out, HM.out⟩, (Grown.refl _).alloc _ _⟩
    · have H2 : Hid _ := fun (_ : Unit) => hp2
      have hge : 2 ≤ cntd (dot s) k := by omega
      clear hp2
      obtain ⟨X, hX⟩ : ∃ X, X = hashAt s (dot s) k k := ⟨_, rfl⟩
      rw [← hX]
      have HX : Hid _ := fun (_ : Unit) => hX
      clear hX
      go_wp2
      go_loop [8] (fun j => ∃ e : Nat, k ≤ e ∧ e ≤ s.size ∧ j = .int .i64 e ∧ Hid (∀ q, k ≤ q → q < e → dot s q = false)) (fun j => s.size - (intOf j).toNat)
      case atStart => exact ⟨k, Nat.le_refl _, hk, rfl, fun q a b => by omega⟩
      case round =>
        obtain ⟨e, hke, hen, rfl, hq⟩ := hrel
        by_cases hlt : e < s.size
        · have hd1 := (dot_of hlt).1
          cases hd : dot s e
          · rw [hd] at hd1
            have HD : Hid _ := hd
            clear hd
            go_wp2
            go_round
            case rel =>
              refine ⟨e + 1, by omega, by omega, by go_num, fun q a b => ?_⟩
              by_cases c : q = e
              · rw [c]; exact HD.out
              · exact hq.out q a (by omega)
            case measure => simp [intOf]; omega
          · rw [hd] at hd1
            have HD : Hid _ := hd
            clear hd
            by_cases ek : e = k
            · have u1 : ((e : Int) == (k : Int)) = true := by rw [beq_iff_eq]; omega
              have HV : Hid (nvalid (dot s) s.size) := (HB.out ()).empty (Or.inr (by rw [← ek]; exact HD.out)) (dot_out s _ (Nat.le_refl _))
              clear ek
              go_wp2
              exact bodyPost_ret (v := .tuple #[.agg #[.int .u64 0, .int .i64 0], .bool false]) (by simp [results, Try.results11, go_sem]) rfl ⟨.inr ⟨HV.out, rfl⟩, (Grown.refl _).alloc _ _⟩
            · have u1 : ((e : Int) == (k : Int)) = false := by rw [beq_eq_false_iff_ne]; omega
              by_cases c16 : cntd (dot s) k = 16
              · have u2 : ((cntd (dot s) k : Int) == 16) = true := by rw [beq_iff_eq]; omega
                have HV : Hid (nvalid (dot s) s.size) := (HB.out ()).many c16
                clear c16
                go_wp2
                exact bodyPost_ret (v := .tuple #[.agg #[.int .u64 0, .int .i64 0], .bool false]) (by simp [results, Try.results11, go_sem]) rfl ⟨.inr ⟨HV.out, rfl⟩, (Grown.refl _).alloc _ _⟩
              have u2 : ((cntd (dot s) k : Int) == 16) = false := by rw [beq_eq_false_iff_ne]; omega
              have un : ((e : Int) == (s.size : Int)) = false := by rw [beq_eq_false_iff_ne]; omega
              have HE : Hid _ := fun (_ : Unit) => (HB.out ()).next (by omega) hlt hq.out HD.out
              have HC : Hid (cntd (dot s) (e + 1) = cntd (dot s) k + 1) := by rw [cntd_hit HD.out, (quiet (dot s) k e hke hq.out).1]; rfl
              have HL : Hid (lastd (dot s) (e + 1) = (e : Int)) := lastd_hit HD.out
              have u3 : ((cntd (dot s) k : Int) + 1 == 1) = false := by rw [beq_eq_false_iff_ne]; omega
              have HN : Hid (X = hashAt s (dot s) (e + 1) (e + 1)) := by
                have := (hash_next (s := s) (by omega) hq.out HD.out).2 (by omega)
                rw [this, HX.out ()]
                exact hash_ge (H2.out ())
              go_wp2
              go_round
              case rel => exact ⟨e + 1, HE.out (), by go_num, by rw [HC.out]; go_num, by rw [HL.out], by rw [← HN.out], by rw [HC.out]; omega⟩
              case measure => simp [intOf]; omega
        · obtain rfl : e = s.size := by omega
          by_cases ek : s.size = k
          · have u1 : ((s.size : Int) == (k : Int)) = true := by rw [beq_iff_eq]; omega
            have HV : Hid (nvalid (dot s) s.size) := (HB.out ()).empty (Or.inl ek.symm) (dot_out s _ (Nat.le_refl _))
            clear ek
            go_wp2
            exact bodyPost_ret (v := .tuple #[.agg #[.int .u64 0, .int .i64 0], .bool false]) (by simp [results, Try.results11, go_sem]) rfl ⟨.inr ⟨HV.out, rfl⟩, (Grown.refl _).alloc _ _⟩
          · have u1 : ((s.size : Int) == (k : Int)) = false := by rw [beq_eq_false_iff_ne]; omega
            by_cases c16 : cntd (dot s) k = 16
            · have u2 : ((cntd (dot s) k : Int) == 16) = true := by rw [beq_iff_eq]; omega
              have HV : Hid (nvalid (dot s) s.size) := (HB.out ()).many c16
              clear c16
              go_wp2
              exact bodyPost_ret (v := .tuple #[.agg #[.int .u64 0, .int .i64 0], .bool false]) (by simp [results, Try.results11, go_sem]) rfl ⟨.inr ⟨HV.out, rfl⟩, (Grown.refl _).alloc _ _⟩
            have u2 : ((cntd (dot s) k : Int) == 16) = false := by rw [beq_eq_false_iff_ne]; omega
            have HV : Hid (valid (dot s) s.size) := (HB.out ()).last (by omega) hs hq.out (by omega)
            have HM : Hid (Ending.returned (.tuple #[.agg #[.int .u64 X, .int .i64 (lastd (dot s) k)], .bool true]) = shpM s) := shpM_of hk hq.out ((HX.out ()).trans (hash_ge (H2.out ())))
            go_wp2
            exact bodyPost_ret (v := .tuple #[.agg #[.int .u64 X, .int .i64 (lastd (dot s) k)], .bool true]) (by simp [results, Try.results11, go_sem]) rfl ⟨.inl ⟨HV.out, HM.out⟩, (Grown.refl _).alloc _ _⟩
end Go.Proofs.Qxb6602040a
