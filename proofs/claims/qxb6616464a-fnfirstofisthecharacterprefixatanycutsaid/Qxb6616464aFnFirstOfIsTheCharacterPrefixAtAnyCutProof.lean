/-
  The proof of 'Rows.FnFirstOfIsTheCharacterPrefixAtAnyCutSaid', over the given frame of a proof: the plain law, the walk, the row's step.
-/
import Derived.Test.Qxb6616464aFirst
import Derived.Deep.QuietTactic
import Derived.BigQuiet
import Derived.WalkKit
import Derived.ProofKit
import Derived.OpenShut
import Derived.ShutString
namespace Go.Proofs.Qxb6616464a.fnFirstOfIsTheCharacterPrefixAtAnyCut
open Plain
open Go.ChangeShapes Go.WideShapes Go.ChangeAt Go.RowKit
open Go.ChangeMaps (open_string shut_string)
set_option linter.unusedVariables false      -- a walk need not use every 'w<i>' (that an integer argument fits its kind)

theorem own : ownKnob Try.prog.godebug = none := by kernel_rfl

/-- What the law says, with no Go in sight. -/
theorem plain3 (a b s r q : ByteArray) (hs : a ++ b = s) (hr : s.extract 0 (adv s 8 0) = r) (hq : a.extract 0 (adv a 8 0) = q) :
    s.size = a.size + b.size ∧ r.size ≤ s.size ∧ Hid (s.extract 0 r.size = r) ∧ chars r 0 = min 8 (chars s 0) ∧ chars r 0 + chars (s.extract r.size s.size) 0 = chars s 0
      ∧ q.size ≤ r.size ∧ Hid (r.extract 0 q.size = q) ∧ (r.size ≤ a.size → Hid (q = r)) := by
  have hz : s.size = a.size + b.size := by rw [← hs, ByteArray.size_append]
  have ha : s.extract 0 a.size = a := by rw [← hs]; exact ByteArray.extract_append_eq_left rfl
  have he := adv_le s 8 0 (by omega)
  have he' := adv_le a 8 0 (by omega)
  have hrz : r.size = adv s 8 0 := by rw [← hr]; exact size_prefix s _ he
  have hqz : q.size = adv a 8 0 := by rw [← hq]; exact size_prefix a _ he'
  have hle : adv a 8 0 ≤ adv s 8 0 := by
    have := adv_prefix_le s a.size (by omega) 8 0 (by omega)
    rwa [ha] at this
  have h2 : chars r 0 = min 8 (chars s 0) := by rw [← hr]; exact chars_cut s _ he 8 0 rfl
  have hrq : r.extract 0 q.size = q := by
    rw [← hr, hqz, ByteArray.extract_extract, ← hq, ← ha, ByteArray.extract_extract, ha]
    congr 1; omega
  refine ⟨hz, by omega, by show _ = _; rw [hrz]; exact hr, h2, ?_, by omega, hrq, fun h => ?_⟩
  · have h3 := adv_sum s 8 0
    have h4 := chars_suffix s r.size (by omega) s.size 0 (by omega)
    rw [h4, h2, Nat.add_zero, hrz]; omega
  · have h5 := adv_cut s a.size (by omega) 8 0 (by omega)
    rw [ha] at h5
    show q = r
    rw [← hq, h5, ← ha, ByteArray.extract_extract, ← hr]
    congr 1; omega

/-! ### STEP 1: THE WALK: the Go text returns true. 'Grown w w'': the world has at most new blocks (Derived/RowKit3.lean). Part the cases AHEAD of 'go_enter' where a test parts the walk; take each callee by a contract of your own. -/
set_option maxHeartbeats 400000 in
theorem walk (a b : ByteArray) (w0 : a.size ≤ maxLen) (w1 : b.size ≤ maxLen) (w : World) :
    Calls Try.prog 3 #[.string a, .string b] w fun e w' => e = .returned (.bool true) ∧ Grown w w' := by
  by_cases hz : a.size + b.size ≤ 1048576
  · have dz : decide (a.size + b.size ≤ 1048576) = true := by simpa using hz
    go_enter Try.func3, Try.ntmps3
    go_wp2_with (go_at_call 7; refine (zzbytes7 _ _ _ w0 w1).mono ?_; rintro e w' ⟨rfl, rfl⟩)
    generalize hid : a ++ b = s at *
    have hsz : s.size = a.size + b.size := by rw [← hid, ByteArray.size_append]
    refine (zzfirstOf_any s _ (by omega)).mono ?_
    rintro e W1 ⟨p1, rfl, rfl⟩
    generalize hr : s.extract 0 (adv s 8 0) = r at *
    have Hs : Hid (a ++ b = s) := hid
    have Hr : Hid (s.extract 0 (adv s 8 0) = r) := hr
    clear hid hr hsz
    go_wp2_with fail
    refine (zzfirstOf_any a _ (by omega)).mono ?_
    rintro e W2 ⟨p2, rfl, rfl⟩
    generalize hq : a.extract 0 (adv a 8 0) = q at *
    obtain ⟨z1, z2, z3, z4, z5, z6, z7, z8⟩ := plain3 a b s r q Hs.out Hr.out hq
    clear hq
    go_wp2_with fail
    refine (isPrefix_true r s _ z2 z3 (by omega)).mono ?_
    rintro e W3 ⟨rfl, rfl⟩
    clear z3
    have Z5 : Hid (chars r 0 + chars (s.extract r.size s.size) 0 = chars s 0) := z5
    have hs2 : s.size ≤ 1048576 := by omega
    have hs3 : r.size ≤ 1048576 := by omega
    have hs4 : (s.extract r.size s.size).size ≤ 1048576 := by rw [ByteArray.size_extract]; omega
    have Z8 : Hid (r.size ≤ a.size → Hid (q = r)) := z8
    clear z8
    have f5 : (wrap64 (((chars r 0 : Nat) : Int) + ((chars (s.extract r.size s.size) 0 : Nat) : Int)) != ((chars s 0 : Nat) : Int)) = false := by
      rw [bne_eq_false_iff_eq]; unfold wrap64; have := chars_size s 0; omega
    have f4 : (((chars r 0 : Nat) : Int) != min 8 ((chars s 0 : Nat) : Int)) = false := by rw [bne_eq_false_iff_eq]; omega
    clear z4 z5 z1
    have c1 := chars_size r 0
    have c2 := chars_size s 0
    go_wp2_with fail
    refine (count_any r _ (by omega)).mono ?_
    rintro e W4 ⟨rfl, rfl⟩
    go_wp2_with fail
    refine (count_any s _ (by omega)).mono ?_
    rintro e W5 ⟨rfl, rfl⟩
    go_wp2_with fail
    refine (min_any 8 _ _).mono ?_
    rintro e W6 ⟨rfl, rfl⟩
    go_wp2_with fail
    go_quiet ((go_at_call 10; refine Calls.quiet_of_same (count_any _ _ ?_); first | exact hs3 | exact hs4 | exact hs2))
    go_wp2_with fail
    refine (isPrefix_true q r _ z6 z7 (by omega)).mono ?_
    rintro e W7 ⟨rfl, rfl⟩
    by_cases h8 : (r.size : Int) ≤ a.size
    · obtain rfl : q = r := (Z8.out (by omega)).out
      have h9 : (q.toList != q.toList) = false := by simp
      go_wp2_with fail
      go_ret
      exact ⟨rfl, by repeat (first | exact Grown.refl _ | apply Grown.drew | apply Grown.alloc | apply Grown.iter | apply Grown.drewN)⟩
    · go_wp2_with fail
      go_ret
      exact ⟨rfl, by repeat (first | exact Grown.refl _ | apply Grown.drew | apply Grown.alloc | apply Grown.iter | apply Grown.drewN)⟩
  · have dz : decide (a.size + b.size ≤ 1048576) = false := by simpa using hz
    go_enter Try.func3, Try.ntmps3
    go_wp2_with (go_at_call 7; refine (zzbytes7 _ _ _ w0 w1).mono ?_; rintro e w' ⟨rfl, rfl⟩)
    go_ret
    exact ⟨rfl, Grown.refl _⟩

/-! ### THE ROW's STEP: WRITTEN OUT: LEAVE IT -/
set_option maxRecDepth 100000 in
theorem lifted (os : Os) (started : os.Started) (H : Type) (enc : TypeId × Value → H) :
    ReturnsInHanded {} Try.checked os 3 .any (Rows.fnFirstOfIsTheCharacterPrefixAtAnyCutSpec.pre6 enc Try.prog Try.f3 Rows.fnFirstOfIsTheCharacterPrefixAtAnyCutRow.domain false) (Rows.fnFirstOfIsTheCharacterPrefixAtAnyCutSpec.post enc Try.prog Try.f3 false true false false) := by
  refine returnsInHanded_of_change (C := Try.checked) own started (by kernel_rfl) Try.func3
    (ChangeSpec.witness6 (enc := enc) (C := Try.checked) false ⟨#[], #[.string ByteArray.empty, .string ByteArray.empty], []⟩ 8 (by kernel_rfl) (by kernel_rfl) (by kernel_rfl) (by kernel_rfl)) ?_
  intro W base args ds gs before hval0 hW hcnd _
  have hval : ∀ (j : Nat) t v, Try.f3.params[j]? = some t → args[j]? = some v → Value.okWide Try.prog W .any base t v := hval0
  have hW' := hW
  obtain ⟨p, q, hA0, hV, rfl, hfz, hnd⟩ := hW
  have hA : DataW.TrodAll enc Try.prog W 0 (fun _ => true) true Try.f3.params.toList args.toList ds p := hA0
  rw [Try.params3] at hA hval
  obtain ⟨v0, vs0, d0, ds0, p0, q0, hargs, rfl, rfl, h0, r0⟩ := trodAll_cons hA
  obtain ⟨v1, vs1, d1, ds1, p1, q1, rfl, rfl, rfl, h1, r1⟩ := trodAll_cons r0
  obtain ⟨rfl, rfl, rfl⟩ := trodAll_nil r1
  obtain rfl : args = #[v0, v1] := by cases args; simp_all
  obtain ⟨rfl, rfl⟩ := trodVars_none hV
  obtain ⟨a0, rfl, rfl, rfl, w0⟩ := open_string Try.underlying9 (hval 0 9 v0 rfl rfl) h0
  obtain ⟨a1, rfl, rfl, rfl, w1⟩ := open_string Try.underlying9 (hval 1 9 v1 rfl rfl) h1
  clear hA0 hval0
  simp only [List.append_nil] at hW'
  refine (walk a0 a1 w0 w1 W).mono fun e W' ⟨he, hg⟩ => ?_
  subst he
  exact ⟨_, rfl, post_of_same (pa := []) (pv := []) hW' (fun _ _ _ => (trodAll_cons_mk (shut_bool Try.underlying4 _) trodAll_mk0)) (fun sp _ => (trodAll_cons_mk (shut_string Try.underlying9 w0) (trodAll_cons_mk (shut_string Try.underlying9 w1) trodAll_mk0))) (fun _ _ => rfl) rfl
    (hg.frame _) hg.2.1 (ok_one (by kernel_rfl) rfl (okWide_bool_mk Try.underlying4 _))⟩

theorem over : Rows.fnFirstOfIsTheCharacterPrefixAtAnyCutRow.holds Try.pinned (OpenSpec.ofChange Rows.fnFirstOfIsTheCharacterPrefixAtAnyCutSpec) :=
  OpenClaim.holds_of_wide 3 Try.f3 rfl rfl rfl rfl rfl rfl rfl ⟨rfl, rfl, rfl, rfl, rfl⟩ rfl rfl rfl rfl rfl (by kernel_rfl) Try.func3 (by kernel_rfl)
    (of_decide_eq_true (by kernel_rfl)) (by unfold Func.isWrapper; first | (rw [if_pos (by decide +kernel)]; kernel_rfl) | (rw [if_neg (by decide +kernel)]; exact ⟨rfl, rfl⟩))
    (fun os started H enc _ => lifted os started H enc)

/-- ████ THE STATEMENT ████ -/
theorem proved : Rows.FnFirstOfIsTheCharacterPrefixAtAnyCutSaid :=
  over
end Go.Proofs.Qxb6616464a.fnFirstOfIsTheCharacterPrefixAtAnyCut
