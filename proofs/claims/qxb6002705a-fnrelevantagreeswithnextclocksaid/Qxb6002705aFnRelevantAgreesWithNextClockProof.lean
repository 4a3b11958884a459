/- The proof of Rows.FnRelevantAgreesWithNextClockSaid. -/
import Derived.Test.Qxb6002705aRows
import Derived.Test.Qxb6002705aView
import Derived.Test.Qxb6002705aLawAgreeAll
import Derived.WalkKit
import Derived.ProofKit
import Derived.OpenShut
import Derived.ShutString
namespace Go.Proofs.Qxb6002705a.fnRelevantAgreesWithNextClock
open Go.ChangeShapes Go.WideShapes Go.ChangeAt Go.RowKit

theorem own : ownKnob Try.prog.godebug = none := by kernel_rfl

set_option maxRecDepth 100000 in
theorem lifted (os : Os) (started : os.Started) (H : Type) (enc : TypeId × Value → H) :
    ReturnsInHanded {} Try.checked os 7 .any (Rows.fnRelevantAgreesWithNextClockSpec.pre6 enc Try.prog Try.f7 Rows.fnRelevantAgreesWithNextClockRow.domain false) (Rows.fnRelevantAgreesWithNextClockSpec.post enc Try.prog Try.f7 false true false false) := by
  refine returnsInHanded_of_change (C := Try.checked) own started (by kernel_rfl) Try.func7
    (ChangeSpec.witness6 (enc := enc) (C := Try.checked) false ⟨#[], #[.int .i64 0, .int .i64 0, .slice none 0 0, .slice none 0 0], []⟩ 8 (by kernel_rfl) (by kernel_rfl) (by kernel_rfl) (by kernel_rfl)) ?_
  intro W base args ds gs before hval0 hW hcnd _
  have hval : ∀ (j : Nat) t v, Try.f7.params[j]? = some t → args[j]? = some v → Value.okWide Try.prog W .any base t v := hval0
  have hW' := hW
  obtain ⟨p, q, hA0, hV, rfl, hfz, hnd⟩ := hW
  have hA : DataW.TrodAll enc Try.prog W 0 (fun _ => true) true Try.f7.params.toList args.toList ds p := hA0
  rw [Try.params7] at hA hval
  obtain ⟨v0, vs0, d0, ds0, p0, q0, hargs, rfl, rfl, h0, r0⟩ := trodAll_cons hA
  obtain ⟨v1, vs1, d1, ds1, p1, q1, rfl, rfl, rfl, h1, r1⟩ := trodAll_cons r0
  obtain ⟨v2, vs2, d2, ds2, p2, q2, rfl, rfl, rfl, h2, r2⟩ := trodAll_cons r1
  obtain ⟨v3, vs3, d3, ds3, p3, q3, rfl, rfl, rfl, h3, r3⟩ := trodAll_cons r2
  obtain ⟨rfl, rfl, rfl⟩ := trodAll_nil r3
  obtain rfl : args = #[v0, v1, v2, v3] := by cases args; simp_all
  obtain ⟨rfl, rfl⟩ := trodVars_none hV
  obtain ⟨a0, rfl, rfl, rfl, w0⟩ := open_int Try.underlying3 (hval 0 3 v0 rfl rfl) h0
  obtain ⟨a1, rfl, rfl, rfl, w1⟩ := open_int Try.underlying3 (hval 1 3 v1 rfl rfl) h1
  obtain ⟨a, n, c, rfl⟩ := okWide_slice Try.underlying22 (hval 2 22 v2 rfl rfl)
  obtain ⟨b, m, d, rfl⟩ := okWide_slice Try.underlying29 (hval 3 29 v3 rfl rfl)
  have h2k := h2
  have h3k := h3
  obtain ⟨f2, hf2⟩ := h2
  obtain ⟨f3, hf3⟩ := h3
  clear hA0 hval0
  simp only [List.append_nil, List.nil_append] at hW'
  have hlt : ∀ x ∈ p2 ++ p3, x.block < W.heap.size := fun x hx => by simpa using hW'.lt x hx
  obtain ⟨zs, hn, hz⟩ := view_ints hf2
  obtain ⟨bs, hm, hb⟩ := view_bools hf3
  refine (agree_any a0 a1 a b n c m d hn hm zs bs W hz hb).mono fun e W' ⟨he, hg⟩ => ?_
  subst he
  exact ⟨_, rfl, _, _, _, [], _, [], hW', trodAll_cons_mk (shut_bool Try.underlying4 _) trodAll_mk0,
    trodAll_cons_mk (shut_int Try.underlying3 w0) (trodAll_cons_mk (shut_int Try.underlying3 w1) (trodAll_cons_mk (Below.trod laidOut (by kernel_rfl) (of_decide_eq_true (by kernel_rfl)) h2k hg (fun x hx => hlt x (by simp [hx])))
      (trodAll_cons_mk (Below.trod laidOut (by kernel_rfl) (of_decide_eq_true (by kernel_rfl)) h3k hg (fun x hx => hlt x (by simp [hx]))) trodAll_mk0))), rfl, hg.frame _, fun h => by cases h⟩

theorem over : Rows.fnRelevantAgreesWithNextClockRow.holds Try.pinned (OpenSpec.ofChange Rows.fnRelevantAgreesWithNextClockSpec) :=
  OpenClaim.holds_of_wide 7 Try.f7 rfl rfl rfl rfl rfl rfl rfl ⟨rfl, rfl, rfl, rfl, rfl⟩ rfl rfl rfl rfl rfl (by kernel_rfl) Try.func7 (by kernel_rfl)
    (of_decide_eq_true (by kernel_rfl)) (by unfold Func.isWrapper; first | (rw [if_pos (by decide +kernel)]; kernel_rfl) | (rw [if_neg (by decide +kernel)]; exact ⟨rfl, rfl⟩))
    (fun os started H enc _ => lifted os started H enc)

/-- THE STATEMENT -/
theorem proved : Rows.FnRelevantAgreesWithNextClockSaid :=
  over
end Go.Proofs.Qxb6002705a.fnRelevantAgreesWithNextClock
