/-
  The proof of 'Rows.FnFirstOfIgnoresAnyTailOfValidTextSaid', over the given frame of a proof: the plain law, the walk, the row's step.
-/
import Derived.Test.Qxb6616464aFirst
import Derived.WalkKit
import Derived.ProofKit
import Derived.OpenShut
import Derived.ShutString
namespace Go.Proofs.Qxb6616464a.fnFirstOfIgnoresAnyTailOfValidText
open Plain
open Go.ChangeShapes Go.WideShapes Go.ChangeAt Go.RowKit
open Go.ChangeMaps (open_string shut_string)
set_option linter.unusedVariables false      -- a walk need not use every 'w<i>' (that an integer argument fits its kind)

theorem own : ownKnob Try.prog.godebug = none := by kernel_rfl

/-- What the law says where the text has eight characters or more. -/
theorem plainLong (a b s : ByteArray) (hs : a ++ b = s) (hv : valid a 0 = true) (hc : 8 ≤ chars a 0) : s.extract 0 (adv s 8 0) = a.extract 0 (adv a 8 0) := by
  have hz : s.size = a.size + b.size := by rw [← hs, ByteArray.size_append]
  have ha : s.extract 0 a.size = a := by rw [← hs]; exact ByteArray.extract_append_eq_left rfl
  have h := (adv_valid s a.size (by omega) a.size 8 0 (by omega) (by omega) (by rw [ha]; exact hv)).1
  rw [ha] at h
  rw [h hc]
  have hl := adv_le a 8 0 (by omega)
  rw [show a.extract 0 (adv a 8 0) = (s.extract 0 a.size).extract 0 (adv a 8 0) from by rw [ha], ByteArray.extract_extract]
  congr 1; omega
/-- What the law says where it has fewer. -/
theorem plainShort (a b s q : ByteArray) (hs : a ++ b = s) (hv : valid a 0 = true) (hc : chars a 0 < 8) (hq : s.extract 0 (adv s 8 0) = q) :
    a.size ≤ q.size ∧ Hid (q.extract 0 a.size = a) ∧ (b.size = 0 → q.size = a.size) ∧ (0 < b.size → a.size < q.size) := by
  have hz : s.size = a.size + b.size := by rw [← hs, ByteArray.size_append]
  have ha : s.extract 0 a.size = a := by rw [← hs]; exact ByteArray.extract_append_eq_left rfl
  have h := (adv_valid s a.size (by omega) a.size 8 0 (by omega) (by omega) (by rw [ha]; exact hv)).2
  rw [ha] at h
  have h1 := h (by omega)
  have he := adv_le s 8 0 (by omega)
  have hqz : q.size = adv s 8 0 := by rw [← hq]; exact size_prefix s _ he
  have h2 := adv_ge s (8 - chars a 0) a.size
  have h3 : a.size ≤ q.size := by omega
  refine ⟨h3, ?_, fun h => by omega, fun h => ?_⟩
  · show _ = _
    rw [← hq, ByteArray.extract_extract]
    rw [show min (0 + a.size) (adv s 8 0) = a.size from by omega]; exact ha
  · have := adv_more s (8 - chars a 0) a.size (by omega) (by omega)
    omega

theorem chars_adv (s : ByteArray) (k : Nat) (h : adv s k 0 < s.size) (h2 : k + chars s (adv s k 0) = chars s 0) : k + 1 + chars s (adv s (k + 1) 0) = chars s 0 := by
  rw [adv_next s k 0 h]
  have := chars_step s _ h
  omega
theorem adv_last (s : ByteArray) (k : Nat) (hk : k ≤ 8) (h : ¬ (adv s k 0 < s.size ∧ k < 8)) : adv s k 0 = adv s 8 0 := by
  by_cases h8 : k = 8
  · rw [h8]
  · rw [show (8 : Nat) = k + (8 - k) from by omega, adv_add, adv_stuck s _ (adv s k 0) (by omega)]

/-! ### STEP 1: THE WALK: the Go text returns true. 'Grown w w'': the world has at most new blocks (Derived/RowKit3.lean). Part the cases AHEAD of 'go_enter' where a test parts the walk; take each callee by a contract of your own. -/
set_option maxRecDepth 100000 in
set_option maxHeartbeats 1000000 in
theorem walk (a0 : ByteArray) (a1 : ByteArray) (w0 : a0.size ≤ maxLen) (w1 : a1.size ≤ maxLen) (w : World) :
    Calls Try.prog 4 #[.string a0, .string a1] w fun e w' => e = .returned (.bool true) ∧ Grown w w' := by
  by_cases hz : a0.size + a1.size ≤ 1048576
  · have dz : decide (a0.size + a1.size ≤ 1048576) = true := by simpa using hz
    have hs0 : a0.size ≤ 1048576 := by omega
    cases hv : valid a0 0 with
    | false =>
      have HV : Hid (valid a0 0 = false) := hv
      clear hv
      go_enter Try.func4, Try.ntmps4
      go_wp2_with (first | (go_at_call 12; refine (zzbytes12 _ _ _ w0 w1).mono ?_; rintro e w' ⟨rfl, rfl⟩) | (go_at_call 13; refine (valid_any _ _ hs0).mono ?_; rw [HV.out]; rintro e w' ⟨rfl, rfl⟩))
      go_ret
      exact ⟨rfl, Grown.refl _⟩
    | true =>
      have HV : Hid (valid a0 0 = true) := hv
      clear hv
      go_enter Try.func4, Try.ntmps4
      go_wp2_with (first | (go_at_call 12; refine (zzbytes12 _ _ _ w0 w1).mono ?_; rintro e w' ⟨rfl, rfl⟩) | (go_at_call 13; refine (valid_any _ _ hs0).mono ?_; rw [HV.out]; rintro e w' ⟨rfl, rfl⟩))
      rename_i W0
      go_loop [5, 6] (fun e c => ∃ k : Nat, k ≤ 8 ∧ e = .int .i64 (adv a0 k 0) ∧ c = .int .i64 k ∧ Hid (k + chars a0 (adv a0 k 0) = chars a0 0)) (fun _ c => 8 - (intOf c).toNat)
      case atStart => exact ⟨0, by omega, rfl, rfl, by show 0 + _ = _; rw [Nat.zero_add]; rfl⟩
      case round =>
        obtain ⟨k, hk, rfl, rfl, hh⟩ := hrel
        have hle := adv_le a0 k 0 (by omega)
        by_cases hlt : adv a0 k 0 < a0.size ∧ k < 8
        · obtain ⟨g1, g2⟩ := hlt
          have hp := wd_pos a0 _ g1
          have hl := wd_le a0 _ g1
          go_wp2_with (go_at_call 14; refine (width_any _ _ _ g1 hs0).mono ?_; rintro e w' ⟨rfl, rfl⟩)
          go_round
          case rel => exact ⟨k + 1, by omega, by rw [adv_next a0 k 0 g1]; go_num, by go_num, chars_adv a0 k g1 hh.out⟩
          case measure => simp [intOf]; omega
        · by_cases h8 : k = 8
          · subst h8
            have HP : Hid ((a0 ++ a1).extract 0 (adv (a0 ++ a1) 8 0) = a0.extract 0 (adv a0 8 0)) := plainLong a0 a1 _ rfl HV.out (by have := hh.out; omega)
            have hne : ((a0.extract 0 (adv a0 8 0)).toList != (a0.extract 0 (adv a0 8 0)).toList) = false := by simp
            have heq : ((a0.extract 0 (adv a0 8 0)).toList == (a0.extract 0 (adv a0 8 0)).toList) = true := by simp
            clear hlt
            by_cases g1 : adv a0 8 0 < a0.size
            all_goals
              go_wp2_with fail
              refine (zzfirstOf_any a0 _ hs0).mono ?_
              rintro e W1 ⟨p1, rfl, rfl⟩
              go_wp2_with fail
              refine (zzfirstOf_any (a0 ++ a1) _ (by rw [ByteArray.size_append]; omega)).mono ?_
              rintro e W2 ⟨p2, rfl, rfl⟩
              rw [HP.out]
              go_wp2_with fail
              go_ret
              exact ⟨rfl, by repeat (first | exact Grown.refl _ | apply Grown.drew | apply Grown.alloc | apply Grown.iter | apply Grown.drewN)⟩
          · have g1 : ¬ adv a0 k 0 < a0.size := by omega
            have e8 : ((k : Int) == 8) = false := by rw [beq_eq_false_iff_ne]; omega
            have hend : adv a0 k 0 = a0.size := by omega
            have hch : chars a0 0 < 8 := by have := hh.out; have := chars_end a0 (adv a0 k 0) (by omega); omega
            have HL : Hid (adv a0 8 0 = adv a0 k 0) := (adv_last a0 k hk hlt).symm
            have hne : ((a0.extract 0 (adv a0 k 0)).toList != (a0.extract 0 (adv a0 k 0)).toList) = false := by simp
            clear hlt hend
            go_wp2_with fail
            refine (zzfirstOf_any a0 _ hs0).mono ?_
            rw [HL.out]
            rintro e W1 ⟨p1, rfl, rfl⟩
            go_wp2_with fail
            generalize hS : a0 ++ a1 = S at *
            have hSz : S.size ≤ 1048576 := by rw [← hS, ByteArray.size_append]; omega
            refine (zzfirstOf_any S _ hSz).mono ?_
            rintro e W2 ⟨p2, rfl, rfl⟩
            generalize hq : S.extract 0 (adv S 8 0) = q at *
            have hqs : q.size ≤ 1048576 := by rw [← hq]; have := adv_le S 8 0 (by omega); rw [size_prefix S _ this]; omega
            obtain ⟨z1, z2, z3, z4⟩ := plainShort a0 a1 S q hS HV.out hch hq
            clear hS hq hch
            go_wp2_with fail
            refine (isPrefix_true a0 q _ z1 z2 hqs).mono ?_
            rintro e W3 ⟨rfl, rfl⟩
            clear z2
            by_cases hb : a1.size = 0
            · have b1 : (((a1.size : Nat) : Int) == 0) = true := by rw [beq_iff_eq]; omega
              have b2 : (((q.size : Nat) : Int) == ((a0.size : Nat) : Int)) = true := by rw [beq_iff_eq]; omega
              clear z3 z4 hb
              go_wp2_with fail
              go_ret
              exact ⟨rfl, by repeat (first | exact Grown.refl _ | apply Grown.drew | apply Grown.alloc | apply Grown.iter | apply Grown.drewN)⟩
            · have b1 : (((a1.size : Nat) : Int) == 0) = false := by rw [beq_eq_false_iff_ne]; omega
              have b2 : (((q.size : Nat) : Int) == ((a0.size : Nat) : Int)) = false := by rw [beq_eq_false_iff_ne]; omega
              clear z3 z4 hb
              go_wp2_with fail
              go_ret
              exact ⟨rfl, by repeat (first | exact Grown.refl _ | apply Grown.drew | apply Grown.alloc | apply Grown.iter | apply Grown.drewN)⟩
  · have dz : decide (a0.size + a1.size ≤ 1048576) = false := by simpa using hz
    go_enter Try.func4, Try.ntmps4
    go_wp2_with (go_at_call 12; refine (zzbytes12 _ _ _ w0 w1).mono ?_; rintro e w' ⟨rfl, rfl⟩)
    go_ret
    exact ⟨rfl, Grown.refl _⟩

/-! ### THE ROW's STEP: WRITTEN OUT: LEAVE IT -/
set_option maxRecDepth 100000 in
theorem lifted (os : Os) (started : os.Started) (H : Type) (enc : TypeId × Value → H) :
    ReturnsInHanded {} Try.checked os 4 .any (Rows.fnFirstOfIgnoresAnyTailOfValidTextSpec.pre6 enc Try.prog Try.f4 Rows.fnFirstOfIgnoresAnyTailOfValidTextRow.domain false) (Rows.fnFirstOfIgnoresAnyTailOfValidTextSpec.post enc Try.prog Try.f4 false true false false) := by
  refine returnsInHanded_of_change (C := Try.checked) own started (by kernel_rfl) Try.func4
    (ChangeSpec.witness6 (enc := enc) (C := Try.checked) false ⟨#[], #[.string ByteArray.empty, .string ByteArray.empty], []⟩ 8 (by kernel_rfl) (by kernel_rfl) (by kernel_rfl) (by kernel_rfl)) ?_
  intro W base args ds gs before hval0 hW hcnd _
  have hval : ∀ (j : Nat) t v, Try.f4.params[j]? = some t → args[j]? = some v → Value.okWide Try.prog W .any base t v := hval0
  have hW' := hW
  obtain ⟨p, q, hA0, hV, rfl, hfz, hnd⟩ := hW
  have hA : DataW.TrodAll enc Try.prog W 0 (fun _ => true) true Try.f4.params.toList args.toList ds p := hA0
  rw [Try.params4] at hA hval
  obtain ⟨v0, vs0, d0, ds0, p0, q0, hargs, rfl, rfl, h0, r0⟩ := trodAll_cons hA
  obtain ⟨v1, vs1, d1, ds1, p1, q1, rfl, rfl, rfl, h1, r1⟩ := trodAll_cons r0
  obtain ⟨rfl, rfl, rfl⟩ := trodAll_nil r1
  obtain rfl : args = #[v0, v1] := by cases args; simp_all
  obtain ⟨rfl, rfl⟩ := trodVars_none hV
  obtain ⟨a0, rfl, rfl, rfl, w0⟩ := open_string Try.underlying9 (hval 0 9 v0 rfl rfl) h0
  obtain ⟨a1, rfl, rfl, rfl, w1⟩ := open_string Try.underlying9 (hval 1 9 v1 rfl rfl) h1
  clear hA0 hval0
  simp only [List.append_nil] at hW'
  refine (walk a0 a1 w0 w1 W).mono fun e W' ⟨he, hg⟩ => ?_
  subst he
  exact ⟨_, rfl, post_of_same (pa := []) (pv := []) hW' (fun _ _ _ => (trodAll_cons_mk (shut_bool Try.underlying4 _) trodAll_mk0)) (fun sp _ => (trodAll_cons_mk (shut_string Try.underlying9 w0) (trodAll_cons_mk (shut_string Try.underlying9 w1) trodAll_mk0))) (fun _ _ => rfl) rfl
    (hg.frame _) hg.2.1 (ok_one (by kernel_rfl) rfl (okWide_bool_mk Try.underlying4 _))⟩

theorem over : Rows.fnFirstOfIgnoresAnyTailOfValidTextRow.holds Try.pinned (OpenSpec.ofChange Rows.fnFirstOfIgnoresAnyTailOfValidTextSpec) :=
  OpenClaim.holds_of_wide 4 Try.f4 rfl rfl rfl rfl rfl rfl rfl ⟨rfl, rfl, rfl, rfl, rfl⟩ rfl rfl rfl rfl rfl (by kernel_rfl) Try.func4 (by kernel_rfl)
    (of_decide_eq_true (by kernel_rfl)) (by unfold Func.isWrapper; first | (rw [if_pos (by decide +kernel)]; kernel_rfl) | (rw [if_neg (by decide +kernel)]; exact ⟨rfl, rfl⟩))
    (fun os started H enc _ => lifted os started H enc)

/-- ████ THE STATEMENT ████ -/
theorem proved : Rows.FnFirstOfIgnoresAnyTailOfValidTextSaid :=
  over
end Go.Proofs.Qxb6616464a.fnFirstOfIgnoresAnyTailOfValidText
