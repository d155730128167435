/-
  The proof of 'Rows.FnOneLineIsSettledAndKeepsPlainTextSaid', over the given frame of a proof: the plain law, the walk, the row's step.
-/
import Derived.Test.Qxb6616464aLine
import Derived.WalkKit
import Derived.ProofKit
import Derived.OpenShut
import Derived.ShutString
namespace Go.Proofs.Qxb6616464a.fnOneLineIsSettledAndKeepsPlainText
open Esc
open Go.ChangeShapes Go.WideShapes Go.ChangeAt Go.RowKit
open Go.ChangeMaps (open_string shut_string)
set_option linter.unusedVariables false      -- a walk need not use every 'w<i>' (that an integer argument fits its kind)

theorem own : ownKnob Try.prog.godebug = none := by kernel_rfl

/-! ### The plain law, the walk -/
theorem ret_bool {a b : Bool} (h : a = b) : Ending.returned (.bool a) = .returned (.bool b) := by rw [h]
theorem bytes19 (s : ByteArray) (w : World) (hs : s.size ≤ maxLen) :
    Calls Try.prog 19 #[.string s] w fun e w' => e = .returned (.bool (decide (s.size ≤ 1048576))) ∧ w' = w := by
  unfold maxLen at hs
  go_enter Try.func19, Try.ntmps19
  go_wp2
  all_goals (go_ret; exact ⟨ret_bool (by simp; try omega), rfl⟩)
theorem toList_eq_iff (t s : ByteArray) : t.toList = s.toList ↔ t.data.toList = s.data.toList := by
  rw [ByteArray.toList_eq, ByteArray.toList_eq]
/-- What the law says, with no Go in sight. -/
theorem plain (s t : ByteArray) (ht : (⟨(esc s.data.toList).toArray⟩ : ByteArray) = t) (hs : s.size ≤ 1048576) :
    t.size ≤ 8388608 ∧ cntB 9 t.data.toList = 0 ∧ cntB 10 t.data.toList = 0 ∧ (⟨(esc t.data.toList).toArray⟩ : ByteArray) = t ∧ (t.toList == s.toList) = decide (cntB 9 s.data.toList + cntB 10 s.data.toList = 0) ∧ cntB 9 s.data.toList ≤ s.size ∧ cntB 10 s.data.toList ≤ s.size := by
  have hl : s.data.toList.length = s.size := by simp
  have hd : t.data.toList = esc s.data.toList := by rw [← ht]
  have hbrk : brk t.data.toList = 0 := by rw [hd]; exact esc_brk _
  have hsz : t.size = (esc s.data.toList).length := by rw [← hd]; simp
  have hlen := esc_length s.data.toList
  have hle := brk_le s.data.toList
  have h9 : cntB 9 s.data.toList ≤ s.data.toList.length := List.count_le_length
  have h10 : cntB 10 s.data.toList ≤ s.data.toList.length := List.count_le_length
  have e1 : brk t.data.toList = cntB 9 t.data.toList + cntB 10 t.data.toList := rfl
  refine ⟨by omega, by omega, by omega, ?_, ?_, by omega, by omega⟩
  · rw [hd, esc_esc]; exact ht
  · rw [Bool.eq_iff_iff]
    simp only [beq_iff_eq, decide_eq_true_eq]
    have e2 : brk s.data.toList = cntB 9 s.data.toList + cntB 10 s.data.toList := rfl
    rw [← e2, ← esc_eq_iff, ← hd]
    exact toList_eq_iff t s
set_option maxRecDepth 100000 in
set_option maxHeartbeats 1000000 in
theorem walk (a0 : ByteArray) (w0 : a0.size ≤ maxLen) (w : World) :
    Calls Try.prog 6 #[.string a0] w fun e w' => e = .returned (.bool true) ∧ Below w.heap.size w w' := by
  by_cases hz : a0.size ≤ 1048576
  · have dz : decide (a0.size ≤ 1048576) = true := by simpa using hz
    go_enter Try.func6, Try.ntmps6
    go_wp2_with (first | (go_at_call 19; refine (bytes19 _ _ w0).mono ?_; rintro e w' ⟨rfl, hw⟩; obtain rfl := hw.symm) | (go_at_call 16; refine (oneLine16 a0 _ (by omega)).mono ?_; rintro e w1 ⟨rfl, hb1⟩))
    generalize ht : (⟨(esc a0.data.toList).toArray⟩ : ByteArray) = t at *
    obtain ⟨p1, p2, p3, p4, p5, p6, p7⟩ := plain a0 t ht hz
    have P4 : Hid ((⟨(esc t.data.toList).toArray⟩ : ByteArray) = t) := p4
    have HB1 : Hid (Below w.heap.size w w1) := hb1
    have n1 : ∀ x : Nat, x = 0 → (((x : Nat) : Int) != 0) = false := fun x hx => by subst hx; rfl
    have q2 := n1 _ p2
    have q3 := n1 _ p3
    have P5 : Hid ((t.toList == a0.toList) = decide (cntB 9 a0.data.toList + cntB 10 a0.data.toList = 0)) := p5
    clear ht p4 p2 p3 n1 p5 hb1
    refine (tabsLines17 a0 _ (by omega)).mono ?_
    rintro e w2 ⟨rfl, rfl⟩
    go_wp2_with fail
    refine (tabsLines17 t _ p1).mono ?_
    rintro e w3 ⟨rfl, rfl⟩
    go_wp2_with fail
    refine (oneLine16 t _ p1).mono ?_
    rw [P4.out]
    rintro e w4 ⟨rfl, hb4⟩
    have HB4 : Hid (Below w.heap.size w w4) := HB1.out.trans (hb4.mono HB1.out.size)
    clear hb4
    have s1 : (t.toList != t.toList) = false := by simp
    generalize cntB 9 a0.data.toList = a at *
    generalize cntB 10 a0.data.toList = b at *
    by_cases hab : a + b = 0
    · have s2 : (t.toList == a0.toList) = true := by rw [P5.out]; simpa using hab
      have s3 : (((a : Nat) : Int) + ((b : Nat) : Int) == 0) = true := by rw [beq_iff_eq]; omega
      clear hab
      go_wp2_with fail
      go_ret
      exact ⟨rfl, HB4.out⟩
    · have s2 : (t.toList == a0.toList) = false := by rw [P5.out]; simpa using hab
      have s3 : (((a : Nat) : Int) + ((b : Nat) : Int) == 0) = false := by rw [beq_eq_false_iff_ne]; omega
      clear hab
      go_wp2_with fail
      go_ret
      exact ⟨rfl, HB4.out⟩
  · have dz : decide (a0.size ≤ 1048576) = false := by simpa using hz
    go_enter Try.func6, Try.ntmps6
    go_wp2_with (go_at_call 19; refine (bytes19 _ _ w0).mono ?_; rintro e w' ⟨rfl, hw⟩; obtain rfl := hw.symm)
    go_ret
    exact ⟨rfl, Below.refl _ _⟩

/-! ### THE ROW's STEP: WRITTEN OUT: LEAVE IT -/
set_option maxRecDepth 100000 in
theorem lifted (os : Os) (started : os.Started) (H : Type) (enc : TypeId × Value → H) :
    ReturnsInHanded {} Try.checked os 6 .any (Rows.fnOneLineIsSettledAndKeepsPlainTextSpec.pre6 enc Try.prog Try.f6 Rows.fnOneLineIsSettledAndKeepsPlainTextRow.domain false) (Rows.fnOneLineIsSettledAndKeepsPlainTextSpec.post enc Try.prog Try.f6 false true false false) := by
  refine returnsInHanded_of_change (C := Try.checked) own started (by kernel_rfl) Try.func6
    (ChangeSpec.witness6 (enc := enc) (C := Try.checked) false ⟨#[], #[.string ByteArray.empty], []⟩ 8 (by kernel_rfl) (by kernel_rfl) (by kernel_rfl) (by kernel_rfl)) ?_
  intro W base args ds gs before hval0 hW hcnd _
  have hval : ∀ (j : Nat) t v, Try.f6.params[j]? = some t → args[j]? = some v → Value.okWide Try.prog W .any base t v := hval0
  have hW' := hW
  obtain ⟨p, q, hA0, hV, rfl, hfz, hnd⟩ := hW
  have hA : DataW.TrodAll enc Try.prog W 0 (fun _ => true) true Try.f6.params.toList args.toList ds p := hA0
  rw [Try.params6] at hA hval
  obtain ⟨v0, vs0, d0, ds0, p0, q0, hargs, rfl, rfl, h0, r0⟩ := trodAll_cons hA
  obtain ⟨rfl, rfl, rfl⟩ := trodAll_nil r0
  obtain rfl : args = #[v0] := by cases args; simp_all
  obtain ⟨rfl, rfl⟩ := trodVars_none hV
  obtain ⟨a0, rfl, rfl, rfl, w0⟩ := open_string Try.underlying9 (hval 0 9 v0 rfl rfl) h0
  clear hA0 hval0
  simp only [List.append_nil] at hW'
  refine (walk a0 w0 W).mono fun e W' ⟨he, bel⟩ => ?_
  subst he
  exact ⟨_, rfl, _, _, _, [], [], [], hW', trodAll_mk1 (shut_bool Try.underlying4 _), (trodAll_cons_mk (shut_string Try.underlying9 w0) trodAll_mk0), rfl, bel.frame _, fun h => by cases h⟩

theorem over : Rows.fnOneLineIsSettledAndKeepsPlainTextRow.holds Try.pinned (OpenSpec.ofChange Rows.fnOneLineIsSettledAndKeepsPlainTextSpec) :=
  OpenClaim.holds_of_wide 6 Try.f6 rfl rfl rfl rfl rfl rfl rfl ⟨rfl, rfl, rfl, rfl, rfl⟩ rfl rfl rfl rfl rfl (by kernel_rfl) Try.func6 (by kernel_rfl)
    (of_decide_eq_true (by kernel_rfl)) (by unfold Func.isWrapper; first | (rw [if_pos (by decide +kernel)]; kernel_rfl) | (rw [if_neg (by decide +kernel)]; exact ⟨rfl, rfl⟩))
    (fun os started H enc _ => lifted os started H enc)

/-- ████ THE STATEMENT ████ -/
theorem proved : Rows.FnOneLineIsSettledAndKeepsPlainTextSaid :=
  over
end Go.Proofs.Qxb6616464a.fnOneLineIsSettledAndKeepsPlainText
