/-
  The row's step: two arrays of twenty octets by value.
-/
import Derived.Test.Qxb6616877aLaw
import Derived.OpenShut
namespace Go.Proofs.Qxb6616877a
open Go.ChangeShapes Go.WideShapes Go.ChangeAt Go.RowKit
open Plain

theorem own : ownKnob Try.prog.godebug = none := by kernel_rfl
theorem cells22 : Try.prog.cellsOf 22 = 20 := by kernel_rfl
theorem cells5 : Try.prog.cellsOf 5 = 1 := by kernel_rfl

theorem mapM_some {α β : Type} (f : α → Option β) (g : α → β) : ∀ l : List α, (∀ i ∈ l, f i = some (g i)) → l.mapM f = some (l.map g) := by
  intro l
  induction l with
  | nil => intro _; rfl
  | cons a l ih =>
    intro h
    rw [List.mapM_cons, h a (by simp), ih (fun i hi => h i (by simp [hi]))]
    rfl

theorem wf_u8 {a : Int} (h : 0 ≤ a ∧ a ≤ 255) : (Lit.int .u8 a).wf = true := by
  simp [Lit.wf, IntKind.min, IntKind.max, IntKind.signed, IntKind.bits]; omega

theorem read_octet {H : Type} (enc : TypeId × Value → H) (W : World) (b : Nat) (sp : Nat → Bool) (hd : Bool) (m : Nat) (a : Int) (h : 0 ≤ a ∧ a ≤ 255) :
    DataW.trod enc Try.prog W b sp hd (m + 1) 5 [.int .u8 a] = some (.lit (.int .u8 a), []) := by
  unfold DataW.trod
  rw [Try.underlying5]
  simp [wf_u8 h]

/-- Twenty octets by value read as themselves, in whatever memory. -/
theorem read_octets {H : Type} (enc : TypeId × Value → H) (W : World) (b : Nat) (sp : Nat → Bool) (hd : Bool) (m : Nat) (xs : List Int) (hl : xs.length = 20) (hb : ∀ a ∈ xs, 0 ≤ a ∧ a ≤ 255) :
    DataW.trod enc Try.prog W b sp hd (m + 2) 22 (cellsOf xs).toList = some (.agg ((List.range 20).map fun i => (DataW.lit (.int .u8 (xs.getD i 0)))), []) := by
  unfold DataW.trod
  rw [Try.underlying22]
  have hlen : (cellsOf xs).toList.length = Try.prog.cellsOf 22 := by rw [cells22]; simp [cellsOf, hl]
  simp only
  rw [if_pos hlen]
  rw [mapM_some _ (fun i => (DataW.lit (.int .u8 (xs.getD i 0)), [])) (List.range 20) (fun i hi => ?_)]
  · simp
  · have hi' : i < 20 := by simpa using hi
    rw [cells5, Nat.mul_one]
    have h3 : ((cellsOf xs).toList.drop i).take 1 = [.int .u8 (xs.getD i 0)] := by
      rw [List.drop_eq_getElem_cons (by simp [cellsOf]; omega)]
      simp [cellsOf, hl, hi']
    rw [h3]
    refine read_octet enc W b sp hd m _ (hb _ ?_)
    rw [List.getD_eq_getElem?_getD, List.getElem?_eq_getElem (by omega)]
    exact List.getElem_mem _

def num : Value → Int
  | .int _ n => n
  | _ => 0

/-- An argument of twenty octets, opened. -/
theorem open_octets {H : Type} {enc : TypeId × Value → H} {W : World} {base : Nat} {v : Value} {d : DataW H} {p : List MemPlace} (hv : Value.okWide Try.prog W .any base 22 v)
    (h : DataW.Trod enc Try.prog W 0 (fun _ => true) true 22 v d p) :
    ∃ xs : List Int, v = .agg (cellsOf xs) ∧ xs.length = 20 ∧ (∀ a ∈ xs, 0 ≤ a ∧ a ≤ 255) ∧ d = .agg ((List.range 20).map fun i => (DataW.lit (.int .u8 (xs.getD i 0)))) ∧ p = [] := by
  obtain ⟨cs, rfl, hsz, _⟩ : ∃ cs, v = .agg cs ∧ cs.size = Try.prog.cellsOf 22 ∧ Row.okWide Try.prog W .any base 22 cs := by
    simpa [Value.okWide, Try.underlying22] using hv
  rw [cells22] at hsz
  obtain ⟨l⟩ := cs
  have hl : l.length = 20 := by simpa using hsz
  obtain ⟨fuel, hf⟩ := h
  have hf0 := hf
  obtain ⟨ys, m, rfl, hx, _, hyl, hy⟩ := DataW.trod_array Try.underlying22 hf
  rw [cells5] at hy
  have key : ∀ i, i < 20 → ∃ a : Int, l[i]? = some (.int .u8 a) ∧ 0 ≤ a ∧ a ≤ 255 ∧ m ≠ 0 := by
    intro i hi
    have h1 := hy i hi
    have h2 : ys[i]? = some (ys[i]'(by omega)) := List.getElem?_eq_getElem (by omega)
    rw [h2] at h1
    obtain ⟨a, e0, e1, wa⟩ := DataW.trod_int Try.underlying5 h1
    have hc : l[i]? = some (l[i]'(by omega)) := List.getElem?_eq_getElem (by omega)
    have h3 : ((Value.agg ⟨l⟩).cells.toList.drop (i * 1)).take 1 = [l[i]'(by omega)] := by
      rw [Nat.mul_one]
      show (l.drop i).take 1 = _
      rw [List.drop_eq_getElem_cons (by omega)]; rfl
    rw [h3] at e0
    have h4 : l[i]'(by omega) = .int .u8 a := by simpa using e0
    have hb := bounds_u8 wa
    refine ⟨a, by rw [hc, h4], hb.1, hb.2, fun hm => ?_⟩
    subst hm
    simp [DataW.trod] at h1
  have hm : m ≠ 0 := by obtain ⟨_, _, _, _, h⟩ := key 0 (by omega); exact h
  obtain ⟨m, rfl⟩ : ∃ k, m = k + 1 := ⟨m - 1, by omega⟩
  have e : l = (l.map num).map fun a => Value.int .u8 a := by
    apply List.ext_getElem?
    intro i
    by_cases hi : i < 20
    · obtain ⟨a, h1, _⟩ := key i hi
      simp [h1, num]
    · rw [List.getElem?_eq_none (by omega), List.getElem?_eq_none (by simp; omega)]
  have hc : (⟨l⟩ : Array Value) = cellsOf (l.map num) := by
    unfold cellsOf; rw [← e]
  have hb : ∀ a ∈ l.map num, 0 ≤ a ∧ a ≤ 255 := by
    intro a ha
    obtain ⟨i, hi, rfl⟩ := List.getElem_of_mem ha
    have hi' : i < 20 := by simp at hi; omega
    obtain ⟨a, h1, h2, h3, _⟩ := key i hi'
    rw [List.getElem?_eq_getElem (by omega)] at h1
    simp only [Option.some.injEq] at h1
    simp [h1, num, h2, h3]
  have hlen : (l.map num).length = 20 := by simpa using hl
  have hr := read_octets enc W 0 (fun _ => true) true m (l.map num) hlen hb
  rw [hc] at hf0
  have hf1 : DataW.trod enc Try.prog W 0 (fun _ => true) true (m + 1 + 1) 22 (cellsOf (l.map num)).toList = some (d, p) := hf0
  rw [hr] at hf1
  simp only [Option.some.injEq, Prod.mk.injEq] at hf1
  exact ⟨l.map num, by rw [hc], hlen, hb, hf1.1.symm, hf1.2.symm⟩

set_option maxRecDepth 100000 in
theorem lifted (os : Os) (started : os.Started) (H : Type) (enc : TypeId × Value → H) :
    ReturnsInHanded {} Try.checked os 3 .any (Rows.fnSerialCompareIsSignOfDifferenceSpec.pre6 enc Try.prog Try.f3 Rows.fnSerialCompareIsSignOfDifferenceRow.domain false) (Rows.fnSerialCompareIsSignOfDifferenceSpec.post enc Try.prog Try.f3 false true false false) := by
  refine returnsInHanded_of_change (C := Try.checked) own started (by kernel_rfl) Try.func3
    (ChangeSpec.witness6 (enc := enc) (C := Try.checked) false ⟨#[], #[.agg #[.int .u8 0, .int .u8 0, .int .u8 0, .int .u8 0, .int .u8 0, .int .u8 0, .int .u8 0, .int .u8 0, .int .u8 0, .int .u8 0, .int .u8 0, .int .u8 0, .int .u8 0, .int .u8 0, .int .u8 0, .int .u8 0, .int .u8 0, .int .u8 0, .int .u8 0, .int .u8 0], .agg #[.int .u8 0, .int .u8 0, .int .u8 0, .int .u8 0, .int .u8 0, .int .u8 0, .int .u8 0, .int .u8 0, .int .u8 0, .int .u8 0, .int .u8 0, .int .u8 0, .int .u8 0, .int .u8 0, .int .u8 0, .int .u8 0, .int .u8 0, .int .u8 0, .int .u8 0, .int .u8 0]], []⟩ 8 (by kernel_rfl) (by kernel_rfl) (by kernel_rfl) (by kernel_rfl)) ?_
  intro W base args ds gs before hval0 hW hcnd _
  have hval : ∀ (j : Nat) t v, Try.f3.params[j]? = some t → args[j]? = some v → Value.okWide Try.prog W .any base t v := hval0
  have hW' := hW
  obtain ⟨p, q, hA0, hV, rfl, hfz, hnd⟩ := hW
  have hA : DataW.TrodAll enc Try.prog W 0 (fun _ => true) true Try.f3.params.toList args.toList ds p := hA0
  rw [Try.params3] at hA hval
  obtain ⟨v0, vs0, d0, ds0, p0, q0, hargs, rfl, rfl, h0, r0⟩ := trodAll_cons hA
  obtain ⟨v1, vs1, d1, ds1, p1, q1, rfl, rfl, rfl, h1, r1⟩ := trodAll_cons r0
  obtain ⟨rfl, rfl, rfl⟩ := trodAll_nil r1
  obtain rfl : args = #[v0, v1] := by cases args; simp_all
  obtain ⟨rfl, rfl⟩ := trodVars_none hV
  obtain ⟨xs, rfl, hx, bx, rfl, rfl⟩ := open_octets (hval 0 22 v0 rfl rfl) h0
  obtain ⟨ys, rfl, hy, by', rfl, rfl⟩ := open_octets (hval 1 22 v1 rfl rfl) h1
  clear hA0 hval0
  simp only [List.append_nil] at hW'
  refine (law3 xs ys W hx hy bx by').mono fun e W' ⟨he, hg⟩ => ?_
  subst he
  have ra : ∀ (sp : Nat → Bool) (zs : List Int), zs.length = 20 → (∀ a ∈ zs, 0 ≤ a ∧ a ≤ 255) → DataW.Trod enc Try.prog W' 0 sp true 22 (.agg (cellsOf zs)) (.agg ((List.range 20).map fun i => (DataW.lit (.int .u8 (zs.getD i 0))))) [] :=
    fun sp zs hz bz => ⟨2, read_octets enc W' 0 sp true 0 zs hz bz⟩
  exact ⟨_, rfl, post_of_same (pa := []) (pv := []) hW' (fun _ _ _ => (trodAll_cons_mk (shut_bool Try.underlying4 _) trodAll_mk0)) (fun sp _ => (trodAll_cons_mk (ra sp xs hx bx) (trodAll_cons_mk (ra sp ys hy by') trodAll_mk0))) (fun _ _ => rfl) rfl
    (hg.frame _) hg.2.1 (ok_one (by kernel_rfl) rfl (okWide_bool_mk Try.underlying4 _))⟩

theorem fnSerialCompare_proved : Rows.FnSerialCompareIsSignOfDifferenceSaid :=
  OpenClaim.holds_of_wide 3 Try.f3 rfl rfl rfl rfl rfl rfl rfl ⟨rfl, rfl, rfl, rfl, rfl⟩ rfl rfl rfl rfl rfl (by kernel_rfl) Try.func3 (by kernel_rfl)
    (of_decide_eq_true (by kernel_rfl)) (by unfold Func.isWrapper; first | (rw [if_pos (by decide +kernel)]; kernel_rfl) | (rw [if_neg (by decide +kernel)]; exact ⟨rfl, rfl⟩))
    (fun os started H enc _ => lifted os started H enc)
end Go.Proofs.Qxb6616877a
