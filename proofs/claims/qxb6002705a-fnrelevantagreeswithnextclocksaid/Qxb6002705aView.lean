import Derived.Test.Qxb6002705aLawOwn
import Derived.Deep.Grids
/- A slice argument, opened once. -/
namespace Go.Proofs.Qxb6002705a
open Go.ChangeShapes Go.WideShapes Go.ChangeAt Go.RowKit Go.Deep

theorem laidOut : laidOutB Try.prog = true := by kernel_rfl
theorem cells3 : Try.prog.cellsOf 3 = 1 := by kernel_rfl
theorem cells4 : Try.prog.cellsOf 4 = 1 := by kernel_rfl

theorem seen_of {W : World} {a : Addr} {n : Nat} {f : Nat → Value} (h : ∀ j, j < n → W.cell? (a.add j) = some (f j)) : Seen W (some a) n f := by
  intro j hj
  obtain ⟨b, o, sp⟩ := a
  have hsp : sp = none := by simpa [Addr.add] using World.cell?_spot (h 0 (by omega))
  subst hsp
  refine ⟨b, o, rfl, ?_⟩
  rw [← Addr.add_lit]
  exact h j hj

theorem view_ints {H : Type} {enc : TypeId × Value → H} {W : World} {fuel : Nat} {a0 : Option Addr} {len cap : Nat} {d : DataW H} {p : List MemPlace}
    (hf : DataW.trod enc Try.prog W 0 (fun _ => true) true fuel 22 (Value.slice a0 len cap).cells.toList = some (d, p)) :
    ∃ zs : Nat → Int, len ≤ 9223372036854775807 ∧ Seen W a0 len (fun j => .int .i64 (zs j)) := by
  rcases open_ints Try.underlying22 Try.underlying3 cells3 hf with ⟨hcs, hx⟩ | ⟨a, len', cap', zs, hcs, _, hl, hm, hz, hx, hcell, hwz⟩
  · simp [Value.cells] at hcs
    obtain ⟨rfl, rfl, rfl⟩ := hcs
    exact ⟨fun _ => 0, by omega, fun j hj => absurd hj (Nat.not_lt_zero _)⟩
  · simp [Value.cells] at hcs
    obtain ⟨rfl, rfl, rfl⟩ := hcs
    simp only [if_true] at hz
    unfold maxLen at hm
    exact ⟨fun j => zs.getD j 0, by omega, seen_of (fun j hj => hcell j (by omega))⟩

theorem view_bools {H : Type} {enc : TypeId × Value → H} {W : World} {fuel : Nat} {a0 : Option Addr} {len cap : Nat} {d : DataW H} {p : List MemPlace}
    (hf : DataW.trod enc Try.prog W 0 (fun _ => true) true fuel 29 (Value.slice a0 len cap).cells.toList = some (d, p)) :
    ∃ bs : Nat → Bool, len ≤ 9223372036854775807 ∧ Seen W a0 len (fun j => .bool (bs j)) := by
  rcases open_bools Try.underlying29 Try.underlying4 cells4 hf with ⟨hcs, hx⟩ | ⟨a, len', cap', B, hcs, _, hl, hm, hx, hcell⟩
  · simp [Value.cells] at hcs
    obtain ⟨rfl, rfl, rfl⟩ := hcs
    exact ⟨fun _ => false, by omega, fun j hj => absurd hj (Nat.not_lt_zero _)⟩
  · simp [Value.cells] at hcs
    obtain ⟨rfl, rfl, rfl⟩ := hcs
    unfold maxLen at hm
    exact ⟨B, by omega, seen_of (fun j hj => hcell j (by omega))⟩
end Go.Proofs.Qxb6002705a
