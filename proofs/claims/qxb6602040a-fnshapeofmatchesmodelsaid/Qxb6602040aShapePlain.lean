import Derived.WalkKit
/- The plain side of FnShapeOfMatchesModel: dots, the last dot, the second dot, the hash of a beginning. -/
namespace Go.Proofs.Qxb6602040a
open Go.RowKit

/-- Is byte k of s a dot? -/
def dot (s : ByteArray) (k : Nat) : Bool := s.data.toList[k]? == some 46

/-- One step of 64-bit FNV-1a, and the hash of the first k bytes. -/
def stp (x : Int) (b : Int) : Int := IntKind.u64.wrap (bits .xor .u64 x b * 1099511628211)
def byte (s : ByteArray) (k : Nat) : Int := ((s.data.toList.getD k 0).toNat : Int)
def fnvK (s : ByteArray) : Nat → Int
  | 0 => 14695981039346656037
  | k + 1 => stp (fnvK s k) (byte s k)

/-- Of the first k bytes: the number of dots; the last dot; the second dot (-1 where there is none). -/
def cntd (d : Nat → Bool) : Nat → Nat
  | 0 => 0
  | k + 1 => if d k then cntd d k + 1 else cntd d k
def lastd (d : Nat → Bool) : Nat → Int
  | 0 => -1
  | k + 1 => if d k then (k : Int) else lastd d k
def secd (d : Nat → Bool) : Nat → Int
  | 0 => -1
  | k + 1 => if d k = true ∧ cntd d k = 1 then (k : Int) else secd d k

/-- Each dot among the first k stands between two bytes that are no dots (the left one looked at, the right end). -/
def good (d : Nat → Bool) (n k : Nat) : Prop := ∀ j, j < k → d j = true → j ≠ 0 ∧ j + 1 ≠ n ∧ d (j - 1) = false

/-- The name is valid. -/
def valid (d : Nat → Bool) (n : Nat) : Prop := 1 ≤ n ∧ n ≤ 512 ∧ good d n n ∧ cntd d n ≤ 15

/-- Where the key ends. -/
def keyEnd (d : Nat → Bool) (n : Nat) : Nat := if 0 ≤ secd d n then (secd d n).toNat else n

theorem cntd_hit {d : Nat → Bool} {k : Nat} (h : d k = true) : cntd d (k + 1) = cntd d k + 1 := by rw [cntd, if_pos h]
theorem cntd_miss {d : Nat → Bool} {k : Nat} (h : d k = false) : cntd d (k + 1) = cntd d k := by rw [cntd, if_neg (by rw [h]; decide)]
theorem lastd_hit {d : Nat → Bool} {k : Nat} (h : d k = true) : lastd d (k + 1) = (k : Int) := by rw [lastd, if_pos h]
theorem lastd_miss {d : Nat → Bool} {k : Nat} (h : d k = false) : lastd d (k + 1) = lastd d k := by rw [lastd, if_neg (by rw [h]; decide)]
theorem secd_hit {d : Nat → Bool} {k : Nat} (h : d k = true) (h1 : cntd d k = 1) : secd d (k + 1) = (k : Int) := by rw [secd, if_pos ⟨h, h1⟩]
theorem secd_miss {d : Nat → Bool} {k : Nat} (h : ¬ (d k = true ∧ cntd d k = 1)) : secd d (k + 1) = secd d k := by rw [secd, if_neg h]

theorem cntd_mono (d : Nat → Bool) (k m : Nat) (h : k ≤ m) : cntd d k ≤ cntd d m := by
  induction m with
  | zero => obtain rfl : k = 0 := by omega
            exact Nat.le_refl _
  | succ m ih =>
    by_cases e : k = m + 1
    · subst e; exact Nat.le_refl _
    · have := ih (by omega)
      cases hd : d m
      · rw [cntd_miss hd]; exact this
      · rw [cntd_hit hd]; omega

theorem cntd_le (d : Nat → Bool) (k : Nat) : cntd d k ≤ k := by
  induction k with
  | zero => exact Nat.le_refl _
  | succ k ih =>
    cases hd : d k
    · rw [cntd_miss hd]; omega
    · rw [cntd_hit hd]; omega

/-- No dot from i up to e: nothing turns. -/
theorem quiet (d : Nat → Bool) (i e : Nat) (h : i ≤ e) (hq : ∀ j, i ≤ j → j < e → d j = false) : cntd d e = cntd d i ∧ lastd d e = lastd d i ∧ secd d e = secd d i := by
  induction e with
  | zero => obtain rfl : i = 0 := by omega
            exact ⟨rfl, rfl, rfl⟩
  | succ e ih =>
    by_cases c : i = e + 1
    · subst c; exact ⟨rfl, rfl, rfl⟩
    · obtain ⟨h1, h2, h3⟩ := ih (by omega) (fun j a b => hq j a (by omega))
      have hd := hq e (by omega) (by omega)
      rw [cntd_miss hd, lastd_miss hd, secd_miss (by rw [hd]; simp)]
      exact ⟨h1, h2, h3⟩

/-- The second dot is there exactly where there are two dots. -/
theorem secd_iff (d : Nat → Bool) (k : Nat) : (cntd d k < 2 → secd d k = -1) ∧ (2 ≤ cntd d k → 0 ≤ secd d k ∧ secd d k < k) := by
  induction k with
  | zero => exact ⟨fun _ => rfl, fun h => by simp [cntd] at h⟩
  | succ k ih =>
    cases hd : d k
    · rw [cntd_miss hd, secd_miss (by rw [hd]; simp)]
      exact ⟨ih.1, fun h => ⟨(ih.2 h).1, by have := (ih.2 h).2; omega⟩⟩
    · rw [cntd_hit hd]
      by_cases h1 : cntd d k = 1
      · rw [secd_hit hd h1]
        exact ⟨fun h => by omega, fun _ => by omega⟩
      · rw [secd_miss (by rw [hd]; simp; exact h1)]
        exact ⟨fun h => ih.1 (by omega), fun h => ⟨(ih.2 (by omega)).1, by have := (ih.2 (by omega)).2; omega⟩⟩

/-! ### The walk of shapeOf, on paper -/

/-- What holds of i, the beginning of a part: the dots ahead of it are all good but for the right end of the last one. -/
structure Beg (d : Nat → Bool) (n i : Nat) : Prop where
  le : i ≤ n
  beg : i = 0 ∨ (1 ≤ i ∧ d (i - 1) = true)
  pre : ∀ j, j < i → d j = true → j ≠ 0 ∧ d (j - 1) = false

theorem Beg.zero (d : Nat → Bool) (n : Nat) : Beg d n 0 := ⟨Nat.zero_le _, Or.inl rfl, fun _ hj => absurd hj (Nat.not_lt_zero _)⟩

/-- An empty part: the name is not valid. -/
theorem Beg.empty {d : Nat → Bool} {n i : Nat} (h : Beg d n i) (he : i = n ∨ d i = true) (hn : d n = false) : ¬ valid d n := by
  rintro ⟨h1, _, hg, _⟩
  rcases he with he | he
  · rcases h.beg with hb | ⟨hb1, hb2⟩
    · omega
    · have := (hg (i - 1) (by omega) hb2).2.1
      omega
  · have hin : i < n := by
      rcases Nat.lt_or_ge i n with q | q
      · exact q
      · have : i = n := by have := h.le; omega
        rw [this, hn] at he
        cases he
    have hgi := hg i hin he
    rcases h.beg with hb | ⟨hb1, hb2⟩
    · exact hgi.1 hb
    · rw [hgi.2.2] at hb2
      cases hb2

/-- Too many parts. -/
theorem Beg.many {d : Nat → Bool} {n i : Nat} (h : Beg d n i) (hc : cntd d i = 16) : ¬ valid d n := by
  rintro ⟨_, _, _, hk⟩
  have := cntd_mono d i n h.le
  omega

/-- The last part ends the name: it is valid, and what was gathered is the answer. -/
theorem Beg.last {d : Nat → Bool} {n i : Nat} (h : Beg d n i) (hin : i < n) (hn : n ≤ 512) (hq : ∀ j, i ≤ j → j < n → d j = false) (hc : cntd d i ≤ 15) : valid d n := by
  refine ⟨by omega, hn, fun j hj hd => ?_, by rw [(quiet d i n (by omega) hq).1]; exact hc⟩
  have hji : j < i := by
    rcases Nat.lt_or_ge j i with q | q
    · exact q
    · rw [hq j q hj] at hd
      cases hd
  have := h.pre j hji hd
  exact ⟨this.1, by omega, this.2⟩

/-- A part that is not empty, and a dot behind it: the next part begins. -/
theorem Beg.next {d : Nat → Bool} {n i e : Nat} (h : Beg d n i) (hie : i < e) (hen : e < n) (hq : ∀ j, i ≤ j → j < e → d j = false) (hd : d e = true) : Beg d n (e + 1) := by
  refine ⟨by omega, Or.inr ⟨by omega, by simpa using hd⟩, fun j hj hdj => ?_⟩
  by_cases c : j = e
  · subst c
    exact ⟨by omega, hq (j - 1) (by omega) (by omega)⟩
  · have hji : j < i := by
      rcases Nat.lt_or_ge j i with q | q
      · exact q
      · rw [hq j q (by omega)] at hdj
        cases hdj
    exact h.pre j hji hdj

/-- The hash that shapeOf has gathered at place e of a part that began at i. -/
def hashAt (s : ByteArray) (d : Nat → Bool) (i e : Nat) : Int := if cntd d i < 2 then fnvK s e else fnvK s (secd d i).toNat

theorem hash_next {s : ByteArray} {d : Nat → Bool} {i e : Nat} (hie : i < e) (hq : ∀ j, i ≤ j → j < e → d j = false) (hd : d e = true) :
    (cntd d i = 0 → hashAt s d (e + 1) (e + 1) = stp (hashAt s d i e) (byte s e)) ∧ (cntd d i ≠ 0 → hashAt s d (e + 1) (e + 1) = hashAt s d i e) := by
  obtain ⟨q1, q2, q3⟩ := quiet d i e (by omega) hq
  have hc : cntd d (e + 1) = cntd d i + 1 := by rw [cntd_hit hd, q1]
  unfold hashAt
  rw [hc]
  refine ⟨fun h => ?_, fun h => ?_⟩
  · rw [if_pos (by omega), if_pos (by omega)]
    rfl
  · by_cases h1 : cntd d i = 1
    · rw [if_neg (by omega), if_pos (by omega), secd_hit hd (by rw [q1]; exact h1)]
      simp
    · rw [if_neg (by omega), if_neg (by omega), secd_miss (by rw [q1]; omega), q3]

theorem hash_end {s : ByteArray} {d : Nat → Bool} {i n : Nat} (hin : i ≤ n) (hq : ∀ j, i ≤ j → j < n → d j = false) : hashAt s d i n = fnvK s (keyEnd d n) := by
  obtain ⟨q1, q2, q3⟩ := quiet d i n hin hq
  have hs := secd_iff d n
  unfold hashAt keyEnd
  by_cases h : cntd d i < 2
  · rw [if_pos h, if_neg]
    rw [hs.1 (by omega)]
    decide
  · rw [if_neg h, if_pos (hs.2 (by omega)).1, q3]

theorem dot_of {s : ByteArray} {k : Nat} (h : k < s.size) : (((s[k].toNat : Nat) : Int) != 46) = !(dot s k) ∧ (((s[k].toNat : Nat) : Int) == 46) = dot s k ∧ byte s k = (s[k].toNat : Int) := by
  have e : s.data.toList[k]? = some s[k] := by
    rw [List.getElem?_eq_getElem (by simpa using h)]
    rfl
  have e2 : s.data.toList.getD k 0 = s[k] := by rw [List.getD_eq_getElem?_getD, e]; rfl
  have key : (((s[k].toNat : Nat) : Int) == 46) = dot s k := by
    unfold dot
    rw [e, Bool.eq_iff_iff]
    simp only [beq_iff_eq, Option.some.injEq]
    constructor
    · intro q
      have : s[k].toNat = 46 := by omega
      exact UInt8.toNat_inj.1 this
    · intro q
      rw [q]
      rfl
  refine ⟨by rw [bne, key], key, ?_⟩
  unfold byte
  rw [e2]

theorem dot_out (s : ByteArray) (k : Nat) (h : s.size ≤ k) : dot s k = false := by
  unfold dot
  rw [List.getElem?_eq_none (by simpa using h)]
  rfl

theorem byte_bd (s : ByteArray) (k : Nat) : 0 ≤ byte s k ∧ byte s k < 256 := by
  unfold byte
  have := (s.data.toList.getD k 0).toNat_lt
  omega
theorem byte_wrap (s : ByteArray) (k : Nat) : IntKind.u64.wrap (byte s k) = byte s k := by
  have := byte_bd s k
  rw [IntKind.wrap_u64]
  omega
end Go.Proofs.Qxb6602040a
