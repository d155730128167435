/-
  The proof of 'Rows.FnOneLineJoinsAtAnyCutAndEscapesEachBreakSaid', over the given frame of a proof: the plain law, the walk, the row's step.
-/
import Derived.Test.Qxb6616464aLine
import Derived.Test.Qxb6616464aOcc
import Derived.Lib.Strings
import Derived.WalkKit
import Derived.ProofKit
import Derived.OpenShut
import Derived.ShutString
namespace Go.Proofs.Qxb6616464a.fnOneLineJoinsAtAnyCutAndEscapesEachBreak
open Esc
open Go.ChangeShapes Go.WideShapes Go.ChangeAt Go.RowKit
open Go.ChangeMaps (open_string shut_string)
set_option linter.unusedVariables false      -- a walk need not use every 'w<i>' (that an integer argument fits its kind)

theorem own : ownKnob Try.prog.godebug = none := by kernel_rfl

/-! ### The plain law, the walk -/
theorem ret_bool {a b : Bool} (h : a = b) : Ending.returned (.bool a) = .returned (.bool b) := by rw [h]
theorem ret_int {k : IntKind} {a b : Int} (h : a = b) : Ending.returned (.int k a) = .returned (.int k b) := by rw [h]
theorem bytes15 (a b : ByteArray) (w : World) (ha : a.size ≤ maxLen) (hb : b.size ≤ maxLen) :
    Calls Try.prog 15 #[.string a, .string b] w fun e w' => e = .returned (.bool (decide (a.size + b.size ≤ 1048576))) ∧ w' = w := by
  unfold maxLen at *
  go_enter Try.func15, Try.ntmps15
  go_wp2
  all_goals (go_ret; exact ⟨ret_bool (by simp; try omega), rfl⟩)

set_option maxRecDepth 100000 in
set_option maxHeartbeats 400000 in
theorem countSub (s p : ByteArray) (w : World) (hs : s.size ≤ 8388608) (hp : p.size = 6) :
    Calls Try.prog 18 #[.string s, .string p] w fun e w' => e = .returned (.int .i64 (occ p.data.toList s.data.toList)) ∧ w' = w := by
  have HL : Hid (s.data.toList.length = s.size) := by show _ = _; simp
  have HP : Hid (p.data.toList.length = 6) := by show _ = _; simpa using hp
  have hpz : Hid (p.size = 6) := hp
  have p1 : (p.size : Int) ≤ 6 := by omega
  have p2 : (6 : Int) ≤ p.size := by omega
  clear hp
  go_enter Try.func18, Try.ntmps18
  go_wp2
  go_loop [5, 6] (fun n i => ∃ k c : Nat, k ≤ s.size ∧ c ≤ k ∧ i = .int .i64 k ∧ n = .int .i64 c ∧ Hid (c + occ p.data.toList (s.data.toList.drop k) = occ p.data.toList s.data.toList)) (fun _ i => s.size - (intOf i).toNat)
  case atStart => exact ⟨0, 0, by omega, by omega, rfl, rfl, by show _ = _; simp⟩
  case round =>
    obtain ⟨k, c, hk, hc, rfl, rfl, hh⟩ := hrel
    by_cases hlt : (k : Int) + p.size ≤ s.size
    · have hkl : k < s.data.toList.length := by rw [HL.out]; omega
      have HO := occ_drop p.data.toList s.data.toList k hkl
      rw [prefix_take] at HO
      have HE : Hid (((s.data.toList.drop k).take p.data.toList.length == p.data.toList) = ((s.extract k (k + p.size)).toList == p.toList)) := by
        show _ = _
        rw [ByteArray.toList_eq, ByteArray.toList_eq, Lib.extract_data, HP.out, hpz.out, Nat.add_sub_cancel_left]
      rw [HE.out] at HO
      have HO' : Hid (occ p.data.toList (s.data.toList.drop k) = (if ((s.extract k (k + p.size)).toList == p.toList) = true then 1 else 0) + occ p.data.toList (s.data.toList.drop (k + 1))) := HO
      clear HO
      by_cases he : ((s.extract k (k + p.size)).toList == p.toList) = true
      · have HQ : Hid (((s.extract k (k + p.size)).toList == p.toList) = true) := he
        go_wp2
        go_round
        case rel => exact ⟨k + 1, c + 1, by omega, by omega, by go_num, by go_num, by have h1 := hh.out; have h2 := HO'.out; rw [if_pos HQ.out] at h2; show _ = _; omega⟩
        case measure => simp [intOf]; omega
      · have he' : ((s.extract k (k + p.size)).toList == p.toList) = false := by simpa using he
        have HQ : Hid (¬ ((s.extract k (k + p.size)).toList == p.toList) = true) := he
        clear he
        go_wp2
        go_round
        case rel => exact ⟨k + 1, c, by omega, by omega, by go_num, rfl, by have h1 := hh.out; have h2 := HO'.out; rw [if_neg HQ.out] at h2; show _ = _; omega⟩
        case measure => simp [intOf]; omega
    · have HZ : Hid (occ p.data.toList (s.data.toList.drop k) = 0) := occ_short _ _ (by rw [List.length_drop, HL.out, HP.out]; omega)
      go_wp2
      go_ret
      exact ⟨ret_int (by have := hh.out; have := HZ.out; omega), rfl⟩
/-- What the law says, with no Go in sight. -/
theorem plain (a b s wh l r : ByteArray) (hs : a ++ b = s) (hw : (⟨(esc s.data.toList).toArray⟩ : ByteArray) = wh) (hl : (⟨(esc a.data.toList).toArray⟩ : ByteArray) = l) (hr : (⟨(esc b.data.toList).toArray⟩ : ByteArray) = r)
    (hz : a.size + b.size ≤ 1048576) :
    Hid (wh = l ++ r) ∧ l.size ≤ 8388608 ∧ r.size ≤ 8388608 ∧ l.size = a.size + 5 * (cntB 9 a.data.toList + cntB 10 a.data.toList) ∧ occ e9 l.data.toList = occ e9 a.data.toList + cntB 9 a.data.toList ∧
    occ e10 l.data.toList = occ e10 a.data.toList + cntB 10 a.data.toList ∧ cntB 9 a.data.toList ≤ a.size ∧ cntB 10 a.data.toList ≤ a.size ∧ occ e9 a.data.toList ≤ a.size ∧ occ e10 a.data.toList ≤ a.size := by
  have la : a.data.toList.length = a.size := by simp
  have lb : b.data.toList.length = b.size := by simp
  have dl : l.data.toList = esc a.data.toList := by rw [← hl]
  have dr : r.data.toList = esc b.data.toList := by rw [← hr]
  have zl : l.size = (esc a.data.toList).length := by rw [← dl]; simp
  have zr : r.size = (esc b.data.toList).length := by rw [← dr]; simp
  have ea := esc_length a.data.toList
  have eb := esc_length b.data.toList
  have ba := brk_le a.data.toList
  have bb := brk_le b.data.toList
  have h9 : cntB 9 a.data.toList ≤ a.data.toList.length := List.count_le_length
  have h10 : cntB 10 a.data.toList ≤ a.data.toList.length := List.count_le_length
  have e2 : brk a.data.toList = cntB 9 a.data.toList + cntB 10 a.data.toList := rfl
  have o9 := occ9 a.data.toList
  have o10 := occ10 a.data.toList
  have p9 := occ_le e9 a.data.toList
  have p10 := occ_le e10 a.data.toList
  have hsd : s.data.toList = a.data.toList ++ b.data.toList := by rw [← hs, ByteArray.data_append]; simp
  refine ⟨?_, by omega, by omega, by omega, by rw [dl]; exact o9, by rw [dl]; exact o10, by omega, by omega, by omega, by omega⟩
  show wh = l ++ r
  rw [← hw, hsd, esc_append, ← hl, ← hr]
  apply ByteArray.ext
  simp

set_option maxRecDepth 100000 in
set_option maxHeartbeats 1000000 in
theorem walk (a0 : ByteArray) (a1 : ByteArray) (w0 : a0.size ≤ maxLen) (w1 : a1.size ≤ maxLen) (w : World) :
    Calls Try.prog 5 #[.string a0, .string a1] w fun e w' => e = .returned (.bool true) ∧ Below w.heap.size w w' := by
  by_cases hz : a0.size + a1.size ≤ 1048576
  · have dz : decide (a0.size + a1.size ≤ 1048576) = true := by simpa using hz
    go_enter Try.func5, Try.ntmps5
    go_wp2_with (go_at_call 15; refine (bytes15 _ _ _ w0 w1).mono ?_; rintro e w' ⟨rfl, hw⟩; obtain rfl := hw.symm)
    generalize hs : a0 ++ a1 = s at *
    have hsz : s.size ≤ 1048576 := by rw [← hs, ByteArray.size_append]; exact hz
    refine (oneLine16 s _ (by omega)).mono ?_
    rintro e W1 ⟨rfl, hb1⟩
    generalize hwh : (⟨(esc s.data.toList).toArray⟩ : ByteArray) = wh at *
    have HB1 : Hid (Below w.heap.size w W1) := hb1
    have Hs : Hid (a0 ++ a1 = s) := hs
    have Hwh : Hid ((⟨(esc s.data.toList).toArray⟩ : ByteArray) = wh) := hwh
    clear hb1 hs hwh
    go_wp2_with fail
    refine (oneLine16 a0 _ (by omega)).mono ?_
    rintro e W2 ⟨rfl, hb2⟩
    generalize hl : (⟨(esc a0.data.toList).toArray⟩ : ByteArray) = l at *
    have HB2 : Hid (Below w.heap.size w W2) := HB1.out.trans (hb2.mono HB1.out.size)
    have Hl : Hid ((⟨(esc a0.data.toList).toArray⟩ : ByteArray) = l) := hl
    clear hb2 hl HB1
    go_wp2_with fail
    refine (oneLine16 a1 _ (by omega)).mono ?_
    rintro e W3 ⟨rfl, hb3⟩
    generalize hr : (⟨(esc a1.data.toList).toArray⟩ : ByteArray) = r at *
    have HB3 : Hid (Below w.heap.size w W3) := HB2.out.trans (hb3.mono HB2.out.size)
    obtain ⟨z1, z2, z3, z4, z5, z6, z7, z8, z9, z10⟩ := plain a0 a1 s wh l r Hs.out Hwh.out Hl.out hr hz
    clear hb3 hr HB2
    have n1 : (wh.toList == (l ++ r).toList) = true := by rw [z1.out]; simp
    generalize hA : cntB 9 a0.data.toList = A at *
    generalize hB : cntB 10 a0.data.toList = B at *
    generalize hC : occ e9 a0.data.toList = C at *
    generalize hD : occ e10 a0.data.toList = D at *
    have HA : Hid (cntB 9 a0.data.toList = A) := hA
    have HBB : Hid (cntB 10 a0.data.toList = B) := hB
    have HC : Hid (occ e9 a0.data.toList = C) := hC
    have HD : Hid (occ e10 a0.data.toList = D) := hD
    have Z5 : Hid (occ e9 l.data.toList = C + A) := z5
    have Z6 : Hid (occ e10 l.data.toList = D + B) := z6
    have n4 : ((l.size : Int) != (a0.size : Int) + 5 * ((A : Int) + (B : Int))) = false := by rw [bne_eq_false_iff_eq]; omega
    have n5 : ((((C + A : Nat)) : Int) != (C : Int) + (A : Int)) = false := by rw [bne_eq_false_iff_eq]; omega
    have n6 : ((((D + B : Nat)) : Int) != (D : Int) + (B : Int)) = false := by rw [bne_eq_false_iff_eq]; omega
    clear hA hB hC hD z5 z6 z4 z1
    go_wp2_with fail
    refine (tabsLines17 a0 _ (by omega)).mono ?_
    rw [HA.out, HBB.out]
    rintro e W4 ⟨rfl, rfl⟩
    go_wp2_with fail
    refine (countSub l ⟨#[92, 117, 48, 48, 48, 57]⟩ _ z2 rfl).mono ?_
    rw [show (⟨#[92, 117, 48, 48, 48, 57]⟩ : ByteArray).data.toList = e9 from rfl, Z5.out]
    rintro e W5 ⟨rfl, rfl⟩
    go_wp2_with fail
    refine (countSub a0 ⟨#[92, 117, 48, 48, 48, 57]⟩ _ (by omega) rfl).mono ?_
    rw [show (⟨#[92, 117, 48, 48, 48, 57]⟩ : ByteArray).data.toList = e9 from rfl, HC.out]
    rintro e W6 ⟨rfl, rfl⟩
    go_wp2_with fail
    refine (countSub l ⟨#[92, 117, 48, 48, 48, 97]⟩ _ z2 rfl).mono ?_
    rw [show (⟨#[92, 117, 48, 48, 48, 97]⟩ : ByteArray).data.toList = e10 from rfl, Z6.out]
    rintro e W7 ⟨rfl, rfl⟩
    go_wp2_with fail
    refine (countSub a0 ⟨#[92, 117, 48, 48, 48, 97]⟩ _ (by omega) rfl).mono ?_
    rw [show (⟨#[92, 117, 48, 48, 48, 97]⟩ : ByteArray).data.toList = e10 from rfl, HD.out]
    rintro e W8 ⟨rfl, rfl⟩
    go_wp2_with fail
    go_ret
    exact ⟨rfl, HB3.out⟩
  · have dz : decide (a0.size + a1.size ≤ 1048576) = false := by simpa using hz
    go_enter Try.func5, Try.ntmps5
    go_wp2_with (go_at_call 15; refine (bytes15 _ _ _ w0 w1).mono ?_; rintro e w' ⟨rfl, hw⟩; obtain rfl := hw.symm)
    go_ret
    exact ⟨rfl, Below.refl _ _⟩

/-! ### THE ROW's STEP: WRITTEN OUT: LEAVE IT -/
set_option maxRecDepth 100000 in
theorem lifted (os : Os) (started : os.Started) (H : Type) (enc : TypeId × Value → H) :
    ReturnsInHanded {} Try.checked os 5 .any (Rows.fnOneLineJoinsAtAnyCutAndEscapesEachBreakSpec.pre6 enc Try.prog Try.f5 Rows.fnOneLineJoinsAtAnyCutAndEscapesEachBreakRow.domain false) (Rows.fnOneLineJoinsAtAnyCutAndEscapesEachBreakSpec.post enc Try.prog Try.f5 false true false false) := by
  refine returnsInHanded_of_change (C := Try.checked) own started (by kernel_rfl) Try.func5
    (ChangeSpec.witness6 (enc := enc) (C := Try.checked) false ⟨#[], #[.string ByteArray.empty, .string ByteArray.empty], []⟩ 8 (by kernel_rfl) (by kernel_rfl) (by kernel_rfl) (by kernel_rfl)) ?_
  intro W base args ds gs before hval0 hW hcnd _
  have hval : ∀ (j : Nat) t v, Try.f5.params[j]? = some t → args[j]? = some v → Value.okWide Try.prog W .any base t v := hval0
  have hW' := hW
  obtain ⟨p, q, hA0, hV, rfl, hfz, hnd⟩ := hW
  have hA : DataW.TrodAll enc Try.prog W 0 (fun _ => true) true Try.f5.params.toList args.toList ds p := hA0
  rw [Try.params5] at hA hval
  obtain ⟨v0, vs0, d0, ds0, p0, q0, hargs, rfl, rfl, h0, r0⟩ := trodAll_cons hA
  obtain ⟨v1, vs1, d1, ds1, p1, q1, rfl, rfl, rfl, h1, r1⟩ := trodAll_cons r0
  obtain ⟨rfl, rfl, rfl⟩ := trodAll_nil r1
  obtain rfl : args = #[v0, v1] := by cases args; simp_all
  obtain ⟨rfl, rfl⟩ := trodVars_none hV
  obtain ⟨a0, rfl, rfl, rfl, w0⟩ := open_string Try.underlying9 (hval 0 9 v0 rfl rfl) h0
  obtain ⟨a1, rfl, rfl, rfl, w1⟩ := open_string Try.underlying9 (hval 1 9 v1 rfl rfl) h1
  clear hA0 hval0
  simp only [List.append_nil] at hW'
  refine (walk a0 a1 w0 w1 W).mono fun e W' ⟨he, bel⟩ => ?_
  subst he
  exact ⟨_, rfl, _, _, _, [], [], [], hW', trodAll_mk1 (shut_bool Try.underlying4 _), (trodAll_cons_mk (shut_string Try.underlying9 w0) (trodAll_cons_mk (shut_string Try.underlying9 w1) trodAll_mk0)), rfl, bel.frame _, fun h => by cases h⟩

theorem over : Rows.fnOneLineJoinsAtAnyCutAndEscapesEachBreakRow.holds Try.pinned (OpenSpec.ofChange Rows.fnOneLineJoinsAtAnyCutAndEscapesEachBreakSpec) :=
  OpenClaim.holds_of_wide 5 Try.f5 rfl rfl rfl rfl rfl rfl rfl ⟨rfl, rfl, rfl, rfl, rfl⟩ rfl rfl rfl rfl rfl (by kernel_rfl) Try.func5 (by kernel_rfl)
    (of_decide_eq_true (by kernel_rfl)) (by unfold Func.isWrapper; first | (rw [if_pos (by decide +kernel)]; kernel_rfl) | (rw [if_neg (by decide +kernel)]; exact ⟨rfl, rfl⟩))
    (fun os started H enc _ => lifted os started H enc)

/-- ████ THE STATEMENT ████ -/
theorem proved : Rows.FnOneLineJoinsAtAnyCutAndEscapesEachBreakSaid :=
  over
end Go.Proofs.Qxb6616464a.fnOneLineJoinsAtAnyCutAndEscapesEachBreak
