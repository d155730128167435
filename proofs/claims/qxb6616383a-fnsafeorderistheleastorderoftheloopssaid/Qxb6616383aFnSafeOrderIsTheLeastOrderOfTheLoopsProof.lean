/-
  The proof of 'Rows.FnSafeOrderIsTheLeastOrderOfTheLoopsSaid', over the given frame of a proof: the walk, the row's step.
-/
import Derived.Test.Qxb6616383aRows
import Derived.Test.Qxb6616383aLoops
import Derived.Test.Qxb6616383aFinds
import Derived.WalkKit
import Derived.ProofKit
import Derived.OpenShut
namespace Go.Proofs.Qxb6616383a.fnSafeOrderIsTheLeastOrderOfTheLoops
open Go.ChangeShapes Go.WideShapes Go.ChangeAt Go.RowKit

theorem own : ownKnob Try.prog.godebug = none := by kernel_rfl
theorem laidOut : laidOutB Try.prog = true := by kernel_rfl

/-! ### THE ROW's STEP -/
set_option maxRecDepth 100000 in
theorem lifted (os : Os) (started : os.Started) (H : Type) (enc : TypeId × Value → H) :
    ReturnsInHanded {} Try.checked os 3 .any (Rows.fnSafeOrderIsTheLeastOrderOfTheLoopsSpec.pre6 enc Try.prog Try.f3 Rows.fnSafeOrderIsTheLeastOrderOfTheLoopsRow.domain false) (Rows.fnSafeOrderIsTheLeastOrderOfTheLoopsSpec.post enc Try.prog Try.f3 false true false false) := by
  refine returnsInHanded_of_change (C := Try.checked) own started (by kernel_rfl) Try.func3
    (ChangeSpec.witness6 (enc := enc) (C := Try.checked) false ⟨#[], #[.slice none 0 0, .slice none 0 0, .slice none 0 0], []⟩ 8 (by kernel_rfl) (by kernel_rfl) (by kernel_rfl) (by kernel_rfl)) ?_
  intro W base args ds gs before hval0 hW hcnd _
  have hval : ∀ (j : Nat) t v, Try.f3.params[j]? = some t → args[j]? = some v → Value.okWide Try.prog W .any base t v := hval0
  have hW' := hW
  obtain ⟨p, q, hA0, hV, rfl, hfz, hnd⟩ := hW
  have hA : DataW.TrodAll enc Try.prog W 0 (fun _ => true) true Try.f3.params.toList args.toList ds p := hA0
  rw [Try.params3] at hA hval
  obtain ⟨v0, vs0, d0, ds0, p0, q0, hargs, rfl, rfl, h0, r0⟩ := trodAll_cons hA
  obtain ⟨v1, vs1, d1, ds1, p1, q1, rfl, rfl, rfl, h1, r1⟩ := trodAll_cons r0
  obtain ⟨v2, vs2, d2, ds2, p2, q2, rfl, rfl, rfl, h2, r2⟩ := trodAll_cons r1
  obtain ⟨rfl, rfl, rfl⟩ := trodAll_nil r2
  obtain rfl : args = #[v0, v1, v2] := by cases args; simp_all
  obtain ⟨rfl, rfl⟩ := trodVars_none hV
  obtain ⟨aa, la, ca, rfl⟩ := okWide_slice Try.underlying22 (hval 0 22 v0 rfl rfl)
  obtain ⟨ab, lb, cb, rfl⟩ := okWide_slice Try.underlying22 (hval 1 22 v1 rfl rfl)
  obtain ⟨ak, lk, ck, rfl⟩ := okWide_slice Try.underlying23 (hval 2 23 v2 rfl rfl)
  clear hA0 hval0
  simp only [List.append_nil] at hW'
  obtain ⟨fa, ha, sa⟩ := sarg_strings h0
  obtain ⟨fb, hb, sb⟩ := sarg_strings h1
  obtain ⟨fk, hk⟩ := sarg_bools h2
  have hlt : ∀ x ∈ p0 ++ (p1 ++ p2), x.block < W.heap.size := fun x hx => hW'.lt x (by simpa using hx)
  refine (least_any finds W aa ab ak la ca lb cb lk ck fa fb fk ha hb hk sa sb).mono fun e W' ⟨he, bel⟩ => ?_
  subst he
  refine ⟨_, rfl, _, _, _, [], p0 ++ (p1 ++ (p2 ++ [])), [], hW', trodAll_mk1 (shut_bool Try.underlying4 _), ?_, rfl, bel.frame _, fun h => by cases h⟩
  exact trodAll_cons_mk (Below.trod laidOut (by kernel_rfl) (of_decide_eq_true (by kernel_rfl)) h0 bel (fun x hx => hlt x (by simp [hx])))
    (trodAll_cons_mk (Below.trod laidOut (by kernel_rfl) (of_decide_eq_true (by kernel_rfl)) h1 bel (fun x hx => hlt x (by simp [hx])))
      (trodAll_cons_mk (Below.trod laidOut (by kernel_rfl) (of_decide_eq_true (by kernel_rfl)) h2 bel (fun x hx => hlt x (by simp [hx]))) trodAll_mk0))

theorem over : Rows.fnSafeOrderIsTheLeastOrderOfTheLoopsRow.holds Try.pinned (OpenSpec.ofChange Rows.fnSafeOrderIsTheLeastOrderOfTheLoopsSpec) :=
  OpenClaim.holds_of_wide 3 Try.f3 rfl rfl rfl rfl rfl rfl rfl ⟨rfl, rfl, rfl, rfl, rfl⟩ rfl rfl rfl rfl rfl (by kernel_rfl) Try.func3 (by kernel_rfl)
    (of_decide_eq_true (by kernel_rfl)) (by unfold Func.isWrapper; first | (rw [if_pos (by decide +kernel)]; kernel_rfl) | (rw [if_neg (by decide +kernel)]; exact ⟨rfl, rfl⟩))
    (fun os started H enc _ => lifted os started H enc)

/-- ████ THE STATEMENT ████ -/
theorem proved : Rows.FnSafeOrderIsTheLeastOrderOfTheLoopsSaid :=
  over
end Go.Proofs.Qxb6616383a.fnSafeOrderIsTheLeastOrderOfTheLoops
