/-
  The walk of zzb1GraphOf.
-/
import Derived.Test.Qxb6616383aReach
namespace Go.Proofs.Qxb6616383a
open Go.RowKit
open Plain
/-- A slice of slices of numbers, each grown by appends of its own. -/
def OA (w : World) (OB n B : Nat) (O : Nat → List Nat) (val : Nat → Value) : Prop :=
  Arr w OB 26 n val ∧ (∀ v, v < n → Own w B 3 (val v) (O v).length (nv (fun j => (O v).getD j 0))) ∧ ∀ v v', v < n → v' < n → v ≠ v' → ∀ k, (val v).ownBlock = some k → (val v').ownBlock ≠ some k
theorem OA.only {S : Nat → Prop} {w w' : World} {OB n B : Nat} {O : Nat → List Nat} {val : Nat → Value} (h : OA w OB n B O val) (ho : Only S w w') (h1 : ¬ S OB) (h2 : ∀ k, B ≤ k → k < w.heap.size → ¬ S k) : OA w' OB n B O val :=
  ⟨h.1.only ho h1, fun v hv => (h.2.1 v hv).only ho (fun k hk => by
    have := (h.2.1 v hv).lt k hk
    exact h2 k this.1 this.2), h.2.2⟩
theorem OA.view {w : World} {OB n B : Nat} {O : Nat → List Nat} {val : Nat → Value} (h : OA w OB n B O val) : LV w OB n O := fun v hv => by
  rcases (h.2.1 v hv).cases with ⟨e, h0⟩ | ⟨g, c, e, _, hr⟩
  · exact ⟨none, 0, by rw [h.1.cell hv, e, h0], fun j hj => by omega⟩
  · exact ⟨some ⟨g, 0, none⟩, c, by rw [h.1.cell hv, e], fun j hj => ⟨g, rfl, hr.cell hj⟩⟩
theorem OA.push {w w7 : World} {OB n B : Nat} {O : Nat → List Nat} {val : Nat → Value} (h : OA w OB n B O val) (hOB : OB < B) {d i2 : Nat} (hd : d < n) {o : Obj} {v' : Value}
    (hO : Own w7 B 3 v' ((O d).length + 1) (upd (nv (fun j => (O d).getD j 0)) (O d).length (.int .i64 (i2 : Nat)))) (hG : (w.alloc o).grownBy w7 (val d).ownBlock) (hM : Moved (w.alloc o) (val d) v') :
    OA (w7.setCell ⟨OB, d, none⟩ v') OB n B (upd O d (O d ++ [i2])) (upd val d v') := by
  have hlt : ∀ v, v < n → ∀ k, (val v).ownBlock = some k → B ≤ k ∧ k < w.heap.size := fun v hv k hk => (h.2.1 v hv).lt k hk
  have hsz : w.heap.size < (w.alloc o).heap.size := by show _ < (w.heap.push o).size; simp
  refine ⟨?_, fun v hv => ?_, fun a b ha hb hne k hk => ?_⟩
  · exact (((h.1.alloc o).grown hG (fun e => by have := (hlt d hd OB e.symm).1; omega)).set d v')
  · by_cases e : v = d
    · subst e
      rw [upd_same, upd_same, List.length_append, List.length_singleton]
      refine Own.congr (f := upd (nv (fun j => (O v).getD j 0)) (O v).length (.int .i64 (i2 : Nat))) ?_ (fun j hj => ?_)
      · exact hO.only (Only.setCell w7 ⟨OB, v, none⟩ v') (fun k hk e => by
          have e' : k = OB := e
          have := (hO.lt k hk).1
          omega)
      · simp only [upd, nv]
        by_cases e2 : j = (O v).length
        · rw [if_pos e2, e2]
          simp
        · rw [if_neg e2]
          rw [List.getD_eq_getElem?_getD, List.getD_eq_getElem?_getD, List.getElem?_append_left (by omega)]
    · rw [upd_other _ _ _ _ e, upd_other _ _ _ _ e]
      have hcase : (val v).ownBlock = none ∨ (val v).ownBlock ≠ (val d).ownBlock := by
        cases hb : (val v).ownBlock with
        | none => exact Or.inl rfl
        | some k => exact Or.inr (fun e2 => h.2.2 v d hv hd e k hb e2.symm)
      refine (((h.2.1 v hv).alloc o).grown hG hcase).only (Only.setCell w7 ⟨OB, d, none⟩ v') (fun k hk e2 => ?_)
      have e' : k = OB := e2
      have := (hlt v hv k hk).1
      omega
  · have key : ∀ c, c < n → c ≠ d → ∀ k, v'.ownBlock = some k → (val c).ownBlock ≠ some k := fun c hc hcd k h1 h2 => by
      rcases hM with h3 | h3
      · rw [h3] at h1
        exact h.2.2 c d hc hd hcd k h2 h1
      · have h4 := h3 k h1
        have := (hlt c hc k h2).2
        omega
    by_cases ea : a = d
    · subst ea
      rw [upd_same] at hk
      rw [upd_other _ _ _ _ (fun e => hne e.symm)]
      exact key b hb (fun e => hne e.symm) k hk
    · rw [upd_other _ _ _ _ ea] at hk
      by_cases eb : b = d
      · subst eb
        rw [upd_same]
        exact fun h1 => key a ha ea k h1 hk
      · rw [upd_other _ _ _ _ eb]
        exact h.2.2 a b ha hb hne k hk
theorem find_at (w : World) (g n c : Nat) (f : Nat → ByteArray) (s : ByteArray) (hs : ∃ i, i < n ∧ f i = s) (hn : n ≤ 1000000) (hf : ∀ i, i < n → w.cell? ⟨g, i, none⟩ = some (.string (f i))) (hr : Rises n f) :
    Calls Try.prog 9 #[.slice (some ⟨g, 0, none⟩) n c, .string s] w fun e w' => ∃ i, i < n ∧ f i = s ∧ e = .returned (.int .i64 (i : Nat)) ∧ w' = w := by
  refine (find_row w g n c f s hn hf hr).mono ?_
  rintro e w' ⟨rfl, ⟨i, hi, e1, e2⟩ | ⟨h, _⟩⟩
  · exact ⟨i, hi, e1, e2, rfl⟩
  · obtain ⟨i, hi, e⟩ := hs
    exact absurd e (h i hi)
theorem grow_mem {O : Nat → List Nat} {x y : Nat → Nat} {k i1 i2 : Nat} (h : ∀ v z, z ∈ O v ↔ ∃ j, j < k ∧ x j = v ∧ y j = z) : ∀ v z, z ∈ upd O i1 (O i1 ++ [i2]) v ↔ ∃ j, j < k + 1 ∧ upd x k i1 j = v ∧ upd y k i2 j = z := by
  intro v z
  have hx : ∀ {u : Nat → Nat} {w j : Nat}, j < k → upd u k w j = u j := fun hj => upd_other _ _ _ _ (by omega)
  constructor
  · intro hz
    by_cases e : v = i1
    · rw [e, upd_same] at hz
      rcases List.mem_append.1 hz with hz | hz
      · obtain ⟨j, hj, e1, e2⟩ := (h i1 z).1 hz
        exact ⟨j, by omega, by rw [hx hj, e1, e], by rw [hx hj, e2]⟩
      · exact ⟨k, by omega, by rw [upd_same, e], by rw [upd_same]; exact (List.mem_singleton.1 hz).symm⟩
    · rw [upd_other _ _ _ _ e] at hz
      obtain ⟨j, hj, e1, e2⟩ := (h v z).1 hz
      exact ⟨j, by omega, by rw [hx hj, e1], by rw [hx hj, e2]⟩
  · rintro ⟨j, hj, e1, e2⟩
    by_cases ej : j = k
    · rw [ej, upd_same] at e1 e2
      rw [← e1, ← e2, upd_same]
      simp
    · rw [upd_other _ _ _ _ ej] at e1 e2
      have hm := (h v z).2 ⟨j, by omega, e1, e2⟩
      by_cases e : v = i1
      · rw [e, upd_same]
        rw [e] at hm
        exact List.mem_append_left _ hm
      · rw [upd_other _ _ _ _ e]; exact hm
theorem grow_len {O : Nat → List Nat} {k i1 i2 : Nat} (h : ∀ v, (O v).length ≤ k) : ∀ v, (upd O i1 (O i1 ++ [i2]) v).length ≤ k + 1 := by
  intro v
  by_cases e : v = i1
  · rw [e, upd_same, List.length_append, List.length_singleton]
    have := h i1
    omega
  · rw [upd_other _ _ _ _ e]
    have := h v
    omega
theorem grow_ends {n k i1 i2 : Nat} {x y : Nat → Nat} {f fa fb : Nat → ByteArray} (h : ∀ j, j < k → x j < n ∧ f (x j) = fa j ∧ y j < n ∧ f (y j) = fb j) (h1 : i1 < n) (h2 : f i1 = fa k) (h3 : i2 < n) (h4 : f i2 = fb k) : ∀ j, j < k + 1 → upd x k i1 j < n ∧ f (upd x k i1 j) = fa j ∧ upd y k i2 j < n ∧ f (upd y k i2 j) = fb j := by
  intro j hj
  by_cases e : j = k
  · rw [e, upd_same, upd_same]; exact ⟨h1, h2, h3, h4⟩
  · rw [upd_other _ _ _ _ e, upd_other _ _ _ _ e]; exact h j (by omega)
theorem results_tmp4 {fn : Func} {t u v x : Tmp} (h : fn.results = #[.tmp t, .tmp u, .tmp v, .tmp x]) (tmps : Array Value) (P : Program) (w : World) :
    (results fn tmps).run P w = .ok (.tuple #[tmps.getD t undef, tmps.getD u undef, tmps.getD v undef, tmps.getD x undef]) w := by
  simp [results, h]
/-- The least name that reaches v and that v reaches. -/
def Least1 (O : Nat → List Nat) (v u : Nat) : Prop := u ≤ v ∧ Plain.Reach O u v ∧ Plain.Reach O v u ∧ ∀ u', u' < u → ¬ (Plain.Reach O u' v ∧ Plain.Reach O v u')
set_option maxRecDepth 100000 in
set_option maxHeartbeats 4000000 in
theorem graph_any (w : World) (aa ab : Option Addr) (la ca cb : Nat) (fa fb : Nat → ByteArray) (ha : SArg w aa la ca (sv fa)) (hb : SArg w ab la cb (sv fb)) (hla : la ≤ 4096) :
    Calls Try.prog 7 #[.slice aa la ca, .slice ab la cb] w fun e w' => ∃ NB n nc f FB TB CB x y cp O, e = .returned (.tuple #[.slice (some ⟨NB, 0, none⟩) n nc, .slice (some ⟨FB, 0, none⟩) la la, .slice (some ⟨TB, 0, none⟩) la la, .slice (some ⟨CB, 0, none⟩) n n]) ∧
      Row w' NB 9 n (sv f) ∧ Arr w' FB 3 la (nv x) ∧ Arr w' TB 3 la (nv y) ∧ Arr w' CB 3 n (nv cp) ∧ Names la la fa fb n f ∧ (∀ k, k < la → x k < n ∧ f (x k) = fa k ∧ y k < n ∧ f (y k) = fb k) ∧ (∀ v z, z ∈ O v ↔ ∃ k, k < la ∧ x k = v ∧ y k = z) ∧ (∀ v, v < n → Least1 O v (cp v)) ∧ Below w.heap.size w w' := by
  have HA : Hid (SArg w aa la ca (sv fa)) := ha
  have HB : Hid (SArg w ab la cb (sv fb)) := hb
  clear ha hb
  go_enter Try.func7, Try.ntmps7
  go_upto_region 2 with (
    go_at_call 11
    refine (names_any w aa ab la ca la cb fa fb HA.out HB.out hla hla).mono ?_
    rintro e w1 ⟨NB, n, nc, f, rfl, hNB, hN1, hB1, hNm⟩
    have HNB : Hid (w.heap.size ≤ NB) := hNB
    have HN1 : Hid (Row w1 NB 9 n (sv f)) := hN1
    have HB1 : Hid (Below w.heap.size w w1) := hB1
    have HNM : Hid (Names la la fa fb n f) := hNm
    clear hNB hN1 hB1 hNm)
  have hn : n ≤ 8192 := by have := HNM.out.le; omega
  have hmk := run_make_row' (P := Try.prog) 26 3 (.int .i64 0) 8 Try.underlying26 Try.info3 rfl .i64 .i64 la (by omega) (by omega)
  have hmo := run_make_row' (P := Try.prog) 36 26 (.slice none 0 0) 24 Try.underlying36 Try.info26 rfl .i64 .i64 n (by omega) (by omega)
  go_upto_region 6 with fail
  obtain ⟨w2, hw2⟩ : ∃ w2 : World, w2 = (((w1.alloc (.cells (madeCells #[.int .i64 0] la) 3)).alloc (.cells (madeCells #[.int .i64 0] la) 3)).alloc (.cells (madeCells #[.slice none 0 0] n) 26)) := ⟨_, rfl⟩
  rw [← hw2]
  obtain ⟨FB, hFB⟩ : ∃ FB, FB = w1.heap.size := ⟨_, rfl⟩
  rw [← hFB]
  obtain ⟨TB, hTB⟩ : ∃ TB, TB = FB + 1 := ⟨_, rfl⟩
  rw [← hTB]
  obtain ⟨OB, hOB⟩ : ∃ OB, OB = TB + 1 := ⟨_, rfl⟩
  rw [← hOB]
  have s1 : (w1.alloc (.cells (madeCells #[.int .i64 0] la) 3)).heap.size = TB := by show (w1.heap.push _).size = _; rw [Array.size_push]; omega
  have s2 : ((w1.alloc (.cells (madeCells #[.int .i64 0] la) 3)).alloc (.cells (madeCells #[.int .i64 0] la) 3)).heap.size = OB := by show ((w1.alloc _).heap.push _).size = _; rw [Array.size_push, s1]; omega
  have F2 : Hid (Arr w2 FB 3 la (nv (fun _ => 0))) := by rw [hw2, hFB]; exact ((made_at' w1 3 la (.int .i64 0)).alloc _).alloc _
  have T2 : Hid (Arr w2 TB 3 la (nv (fun _ => 0))) := by rw [hw2, ← s1]; exact (made_at' _ 3 la (.int .i64 0)).alloc _
  have A2 : Hid (OA w2 OB n (OB + 1) (fun _ => []) (fun _ => .slice none 0 0)) := by
    refine ⟨?_, fun v hv => Own.nil _ _ _ _, fun v v' _ _ _ k hk => by cases hk⟩
    rw [hw2, ← s2]
    exact made_at' _ 26 n (.slice none 0 0)
  have Z2 : Hid (OB + 1 ≤ w2.heap.size) := by
    show _ ≤ _
    rw [hw2]
    show _ ≤ (((w1.alloc _).alloc _).heap.push _).size
    rw [Array.size_push, s2]
    exact Nat.le_refl _
  have O2 : Hid (Below FB w1 w2) := by
    rw [hw2]
    exact (((Only.alloc w1 _ (fun _ => False)).trans (Only.alloc _ _ _)).trans (Only.alloc _ _ _)).below (by rw [hFB]; exact Nat.le_refl _) (fun _ _ => id)
  have HFB : Hid (FB = w1.heap.size) := hFB
  have ho1 : FB < TB := by omega
  have ho2 : TB < OB := by omega
  have W1 : Hid (∀ wr, Below FB w1 wr → Below w.heap.size w wr ∧ ∀ i, i < n → wr.cell? ⟨NB, i, none⟩ = some (.string (f i))) := fun wr hb => ⟨HB1.out.trans (hb.mono (by rw [HFB.out]; exact HB1.out.size)), fun i hi => (HN1.out.below hb (by rw [HFB.out]; exact HN1.out.lt)).cell hi⟩
  clear hw2 hFB hTB hOB s1 s2 hmk hmo
  have hwle : w.heap.size ≤ FB := by rw [HFB.out]; exact HB1.out.size
  go_wp2_with fail
  go_loopg [13] la (fun z c13 wr => ∃ (k : Nat) (x y : Nat → Nat) (O : Nat → List Nat) (val : Nat → Value), z = la - k ∧ k ≤ la ∧ c13 = .int .i64 k ∧ Hid (Arr wr FB 3 la (nv x)) ∧ Hid (Arr wr TB 3 la (nv y)) ∧ Hid (OA wr OB n (OB + 1) O val) ∧ Hid (∀ j, j < k → x j < n ∧ f (x j) = fa j ∧ y j < n ∧ f (y j) = fb j) ∧ Hid (∀ v z, z ∈ O v ↔ ∃ j, j < k ∧ x j = v ∧ y j = z) ∧ Hid (∀ v, (O v).length ≤ k) ∧ Hid (OB + 1 ≤ wr.heap.size) ∧ Hid (Below FB w1 wr))
  case atStart => exact ⟨0, _, _, _, _, by omega, by omega, rfl, F2, T2, A2, fun j hj => by omega, fun v z => by simp, fun v => by simp, Z2, O2⟩
  case round =>
    clear F2 T2 A2 Z2 O2
    obtain ⟨k, x, y, O, val, rfl, hk, rfl, hF, hT, hA, hE, hM, hL, hZ, hB⟩ := hrel
    by_cases hkl : k < la
    ·
      obtain ⟨b1, p1, rfl, hb1, r1⟩ := HA.out.reads hkl
      obtain ⟨b2, p2, rfl, hb2, r2⟩ := HB.out.reads hkl
      have x1 := r1 wr (W1.out wr hB.out).1
      simp only [sv] at x1
      have fF := hF.out.free k
      have cF := hF.out.cell hkl
      go_upto_region 10 with (
        go_at_call 9
        refine (find_at wr NB n nc f (fa k) (HNM.out.toa k hkl) (by omega) (W1.out wr hB.out).2 HNM.out.rises).mono ?_
        rintro e w' ⟨i1, hi1, ei1, rfl, hw⟩
        obtain rfl := hw.symm
        have E1 : Hid (f i1 = fa k) := ei1
        clear ei1)
      obtain ⟨w5, hw5⟩ : ∃ w5 : World, w5 = wr.setCell ⟨FB, k, none⟩ (.int .i64 (i1 : Nat)) := ⟨_, rfl⟩
      rw [← hw5]
      have F5 : Hid (Arr w5 FB 3 la (nv (upd x k i1))) := by
        rw [hw5, ← upd_nv]
        exact hF.out.set k _
      have T5 : Hid (Arr w5 TB 3 la (nv y)) := by rw [hw5]; exact hT.out.other (a := ⟨FB, k, none⟩) (by simp only; omega) _
      have A5 : Hid (OA w5 OB n (OB + 1) O val) := by rw [hw5]; exact hA.out.only (Only.setCell wr ⟨FB, k, none⟩ _) (by simp only; omega) (fun y hy _ => by simp only; omega)
      have B5 : Hid (Below FB w1 w5) := by
        rw [hw5]
        exact hB.out.trans ((Only.setCell wr ⟨FB, k, none⟩ _).below (Nat.le_of_lt hF.out.lt) (fun y hy e => by
          have e' : y = FB := e
          omega))
      have Z5 : Hid (OB + 1 ≤ w5.heap.size) := by rw [hw5, size_setCell]; exact hZ.out
      clear hw5 x1 fF cF hF hT hA hB hZ
      have x1 := r2 w5 (W1.out w5 B5.out).1
      simp only [sv] at x1
      have fF := T5.out.free k
      have cF := T5.out.cell hkl
      clear r1 r2
      go_upto_region 11 with (
        go_at_call 9
        refine (find_at w5 NB n nc f (fb k) (HNM.out.tob k hkl) (by omega) (W1.out w5 B5.out).2 HNM.out.rises).mono ?_
        rintro e w' ⟨i2, hi2, ei2, rfl, hw⟩
        obtain rfl := hw.symm
        have E2 : Hid (f i2 = fb k) := ei2
        clear ei2)
      obtain ⟨w6, hw6⟩ : ∃ w6 : World, w6 = w5.setCell ⟨TB, k, none⟩ (.int .i64 (i2 : Nat)) := ⟨_, rfl⟩
      rw [← hw6]
      have F6 : Hid (Arr w6 FB 3 la (nv (upd x k i1))) := by rw [hw6]; exact F5.out.other (a := ⟨TB, k, none⟩) (by simp only; omega) _
      have T6 : Hid (Arr w6 TB 3 la (nv (upd y k i2))) := by
        rw [hw6, ← upd_nv]
        exact T5.out.set k _
      have A6 : Hid (OA w6 OB n (OB + 1) O val) := by rw [hw6]; exact A5.out.only (Only.setCell w5 ⟨TB, k, none⟩ _) (by simp only; omega) (fun y hy _ => by simp only; omega)
      have B6 : Hid (Below FB w1 w6) := by
        rw [hw6]
        exact B5.out.trans ((Only.setCell w5 ⟨TB, k, none⟩ _).below (Nat.le_of_lt F5.out.lt) (fun y hy e => by
          have e' : y = TB := e
          omega))
      have Z6 : Hid (OB + 1 ≤ w6.heap.size) := by rw [hw6, size_setCell]; exact Z5.out
      clear hw6 x1 fF cF F5 T5 A5 B5 Z5
      obtain ⟨vd, hvd⟩ : ∃ vd, vd = val i1 := ⟨_, rfl⟩
      have HVD : Hid (vd = val i1) := hvd
      have f1 := F6.out.cell hkl
      have t1 := T6.out.cell hkl
      have a1 := A6.out.1.cell hi1
      have a2 := A6.out.1.free i1
      rw [← hvd] at a1
      simp only [nv, upd_same] at f1 t1
      have f2 := (F6.out.alloc (.cells #[.int .i64 (i2 : Nat)] 3)).cell hkl
      have t2 := (T6.out.alloc (.cells #[.int .i64 (i2 : Nat)] 3)).cell hkl
      have a3 := (A6.out.1.alloc (.cells #[.int .i64 (i2 : Nat)] 3)).cell hi1
      rw [← hvd] at a3
      simp only [nv, upd_same] at f2 t2
      have hlen := hL.out i1
      have OW : Hid (Own w6 (OB + 1) 3 vd (O i1).length (nv (fun j => (O i1).getD j 0))) := by rw [hvd]; exact A6.out.2.1 i1 hi1
      obtain ⟨ll, hll⟩ : ∃ ll, ll = (O i1).length := ⟨_, rfl⟩
      rw [← hll] at hlen OW
      have HLL : Hid (ll = (O i1).length) := hll
      clear hvd hll
      refine wp_region_held_drew (S := fun w' => w'.cell? ⟨FB, k, none⟩ = some (.int .i64 (i1 : Nat)) ∧ w'.cell? ⟨TB, k, none⟩ = some (.int .i64 (i2 : Nat))) (by kernel_rfl) ⟨f1, t1⟩ (fun hHeld => ?_)
      refine wpAnyH_take (i := 0) (v := ?_) (by simp only [List.getElem?_toArray, List.getElem?_cons_zero]; rfl) (by kernel_rfl) (by kernel_rfl) (by kernel_rfl) (by exact fun _ _ _ h => h) (Or.inl ⟨by rfl, ?_⟩) (by assumption) ?_
      rotate_left
      · (intro w' hSw; (try dsimp only at hSw); go_simp <;> with_reducible rfl)
      try simp only [Act.put, List.setIfInBounds_toArray, List.set_cons_zero, List.set_cons_succ]
      refine wpAnyH_take (i := 1) (v := ?_) (by simp only [List.getElem?_toArray, List.getElem?_cons_succ, List.getElem?_cons_zero]; rfl) (by kernel_rfl) (by kernel_rfl) (by kernel_rfl) (by exact fun _ _ _ h => h) (Or.inl ⟨by rfl, ?_⟩) (by assumption) ?_
      rotate_left
      · (intro w' hSw; (try dsimp only at hSw); go_simp <;> with_reducible rfl)
      try simp only [Act.put, List.setIfInBounds_toArray, List.set_cons_zero, List.set_cons_succ]
      refine wpAnyH_take (i := 2) (v := ?_) (by simp only [List.getElem?_toArray, List.getElem?_cons_succ, List.getElem?_cons_zero]; rfl) (by kernel_rfl) (by kernel_rfl) (by kernel_rfl) (by exact fun _ _ _ h => h) (Or.inl ⟨by rfl, ?_⟩) (by assumption) ?_
      rotate_left
      · (intro w' hSw; (try dsimp only at hSw); go_simp <;> with_reducible rfl)
      try simp only [Act.put, List.setIfInBounds_toArray, List.set_cons_zero, List.set_cons_succ]
      refine wpAnyH_take (i := 3) (v := ?_) (by simp only [List.getElem?_toArray, List.getElem?_cons_succ, List.getElem?_cons_zero]; rfl) (by kernel_rfl) (by kernel_rfl) (by kernel_rfl) (by exact fun _ _ _ h => h) (Or.inl ⟨by rfl, ?_⟩) (by assumption) ?_
      rotate_left
      · (intro w' hSw; (try dsimp only at hSw); go_simp <;> with_reducible rfl)
      try simp only [Act.put, List.setIfInBounds_toArray, List.set_cons_zero, List.set_cons_succ]
      refine wpAnyH_take (i := 4) (v := ?_) (by simp only [List.getElem?_toArray, List.getElem?_cons_succ, List.getElem?_cons_zero]; rfl) (by kernel_rfl) (by kernel_rfl) (by kernel_rfl) (by exact fun _ _ _ h => h) (Or.inl ⟨by rfl, ?_⟩) (by assumption) ?_
      rotate_left
      · (intro w' hSw; (try dsimp only at hSw); go_simp <;> with_reducible rfl)
      try simp only [Act.put, List.setIfInBounds_toArray, List.set_cons_zero, List.set_cons_succ]
      refine wpAnyH_take (i := 5) (v := ?_) (by simp only [List.getElem?_toArray, List.getElem?_cons_succ, List.getElem?_cons_zero]; rfl) (by kernel_rfl) (by kernel_rfl) (by kernel_rfl) (by exact fun _ _ _ h => h) (Or.inl ⟨by rfl, ?_⟩) (by assumption) ?_
      rotate_left
      · (intro w' hSw; (try dsimp only at hSw); go_simp <;> with_reducible rfl)
      try simp only [Act.put, List.setIfInBounds_toArray, List.set_cons_zero, List.set_cons_succ]
      refine wpAnyH_take (i := 6) (v := ?_) (by simp only [List.getElem?_toArray, List.getElem?_cons_succ, List.getElem?_cons_zero]; rfl) (by kernel_rfl) (by kernel_rfl) (by kernel_rfl) (by exact fun _ _ _ h => h) (Or.inl ⟨by rfl, ?_⟩) (by assumption) ?_
      rotate_left
      · (intro w' hSw; (try dsimp only at hSw); go_simp <;> with_reducible rfl)
      try simp only [Act.put, List.setIfInBounds_toArray, List.set_cons_zero, List.set_cons_succ]
      refine wpAnyH_take (i := 7) (v := ?_) (by simp only [List.getElem?_toArray, List.getElem?_cons_succ, List.getElem?_cons_zero]; rfl) (by kernel_rfl) (by kernel_rfl) (by kernel_rfl) (by exact fun _ _ _ h => h) (Or.inl ⟨by rfl, ?_⟩) (by assumption) ?_
      rotate_left
      · (intro w' hSw; (try dsimp only at hSw); go_simp <;> with_reducible rfl)
      try simp only [Act.put, List.setIfInBounds_toArray, List.set_cons_zero, List.set_cons_succ]
      refine wpAnyH_take (i := 8) (v := ?_) (by simp only [List.getElem?_toArray, List.getElem?_cons_succ, List.getElem?_cons_zero]; rfl) (by kernel_rfl) (by kernel_rfl) (by kernel_rfl) (by exact fun _ _ _ h => h) (Or.inl ⟨by rfl, ?_⟩) (by assumption) ?_
      rotate_left
      · (intro w' hSw; (try dsimp only at hSw); go_simp <;> with_reducible rfl)
      try simp only [Act.put, List.setIfInBounds_toArray, List.set_cons_zero, List.set_cons_succ]
      refine wpAnyH_take (i := 9) (v := ?_) (by simp only [List.getElem?_toArray, List.getElem?_cons_succ, List.getElem?_cons_zero]; rfl) (by kernel_rfl) (by kernel_rfl) (by kernel_rfl) (by exact fun _ _ _ h => h) (Or.inl ⟨by rfl, ?_⟩) (by assumption) ?_
      rotate_left
      · (intro w' hSw; (try dsimp only at hSw); go_simp <;> with_reducible rfl)
      try simp only [Act.put, List.setIfInBounds_toArray, List.set_cons_zero, List.set_cons_succ]
      refine wpAnyH_take (i := 10) (v := ?_) (by simp only [List.getElem?_toArray, List.getElem?_cons_succ, List.getElem?_cons_zero]; rfl) (by kernel_rfl) (by kernel_rfl) (by kernel_rfl) (by exact fun _ _ _ h => h) (Or.inl ⟨by rfl, ?_⟩) (by assumption) ?_
      rotate_left
      · (intro w' hSw; (try dsimp only at hSw); go_simp <;> with_reducible rfl)
      try simp only [Act.put, List.setIfInBounds_toArray, List.set_cons_zero, List.set_cons_succ]
      refine wpAnyH_take (i := 12) (v := ?_) (by simp only [List.getElem?_toArray, List.getElem?_cons_succ, List.getElem?_cons_zero]; rfl) (by kernel_rfl) (by kernel_rfl) (by kernel_rfl) (by exact fun _ _ _ h => h) (Or.inl ⟨by rfl, ?_⟩) (by assumption) ?_
      rotate_left
      · (intro w' hSw; (try dsimp only at hSw); go_simp <;> with_reducible rfl)
      try simp only [Act.put, List.setIfInBounds_toArray, List.set_cons_zero, List.set_cons_succ]
      refine wpAnyH_take (i := 13) (v := ?_) (by simp only [List.getElem?_toArray, List.getElem?_cons_succ, List.getElem?_cons_zero]; rfl) (by kernel_rfl) (by kernel_rfl) (by kernel_rfl) (by exact fun _ _ _ h => h) (Or.inl ⟨by rfl, ?_⟩) (by assumption) ?_
      rotate_left
      · (intro w' hSw; (try dsimp only at hSw); go_simp <;> with_reducible rfl)
      try simp only [Act.put, List.setIfInBounds_toArray, List.set_cons_zero, List.set_cons_succ]
      refine wpAnyH_take (i := 14) (v := ?_) (by simp only [List.getElem?_toArray, List.getElem?_cons_succ, List.getElem?_cons_zero]; rfl) (by kernel_rfl) (by kernel_rfl) (by kernel_rfl) (by exact fun _ _ _ h => h) (Or.inl ⟨by rfl, ?_⟩) (by assumption) ?_
      rotate_left
      · (intro w' hSw; (try dsimp only at hSw); go_simp <;> with_reducible rfl)
      try simp only [Act.put, List.setIfInBounds_toArray, List.set_cons_zero, List.set_cons_succ]
      refine wpAnyH_take (i := 15) (v := ?_) (by simp only [List.getElem?_toArray, List.getElem?_cons_succ, List.getElem?_cons_zero]; rfl) (by kernel_rfl) (by kernel_rfl) (by kernel_rfl) (by exact fun _ _ _ h => h) (Or.inl ⟨by rfl, ?_⟩) (by assumption) ?_
      rotate_left
      · (intro w' hSw; (try dsimp only at hSw); go_simp <;> with_reducible rfl)
      try simp only [Act.put, List.setIfInBounds_toArray, List.set_cons_zero, List.set_cons_succ]
      refine wpAnyH_ready (rs := [11, 16]) (by kernel_rfl) (by simp) ?_
      refine AllReadyH.cons (by simp only [List.getElem?_toArray, List.getElem?_cons_succ, List.getElem?_cons_zero]; rfl) (fun K hK => ?_) (AllReadyH.cons (by simp only [List.getElem?_toArray, List.getElem?_cons_succ, List.getElem?_cons_zero]; rfl) (fun K hK => ?_) AllReadyH.nil)
      · go_simp
        refine hK.out _ _ ⟨f1, t1⟩ (fun hHeld => ?_)
        clear hK K
        try simp only [Act.put, List.setIfInBounds_toArray, List.set_cons_zero, List.set_cons_succ]
        refine wpAnyH_ready (rs := [16]) (by kernel_rfl) (by simp) ?_
        refine AllReadyH.cons (by simp only [List.getElem?_toArray, List.getElem?_cons_succ, List.getElem?_cons_zero]; rfl) (fun K hK => ?_) AllReadyH.nil
        go_simp
        refine hK.out _ _ ⟨f2, t2⟩ (fun hHeld => ?_)
        clear hK K
        try simp only [Act.put, List.setIfInBounds_toArray, List.set_cons_zero, List.set_cons_succ]
        refine wpAnyH_ready (rs := [17]) (by kernel_rfl) (by simp) ?_
        refine AllReadyH.cons (by simp only [List.getElem?_toArray, List.getElem?_cons_succ, List.getElem?_cons_zero]; rfl) (fun K hK => ?_) AllReadyH.nil
        refine step_app rfl (.tmp 67) (.tmp 72) 26 rfl (OB + 1) 3 (.int .i64 0) 8 Try.underlying26 Try.info3 rfl vd ll (nv (fun j => (O i1).getD j 0)) rfl (Own.alloc (show Own w6.drew (OB + 1) 3 vd ll (nv (fun j => (O i1).getD j 0)) from OW.out) _) _ 1 (.int .i64 (i2 : Nat)) rfl (cell_new _ _ _) rfl (by unfold maxLen; omega) (by omega) (by have := Z6.out; simp; omega) ?_
        intro v' w7 hO7 hG7 hM7
        obtain ⟨g', c', rfl⟩ := hO7.out.some_
        have hob : ∀ k, vd.ownBlock = some k → OB + 1 ≤ k := fun k hk => (OW.out.lt k hk).1
        have HF7 : Hid (Arr w7 FB 3 la (nv (upd x k i1))) := (Arr.alloc (show Arr w6.drew FB 3 la (nv (upd x k i1)) from F6.out) _).grown hG7.out (fun h => by have := hob FB h.symm; omega)
        have HT7 : Hid (Arr w7 TB 3 la (nv (upd y k i2))) := (Arr.alloc (show Arr w6.drew TB 3 la (nv (upd y k i2)) from T6.out) _).grown hG7.out (fun h => by have := hob TB h.symm; omega)
        have HA7 : Hid (Arr w7 OB 26 n val) := (Arr.alloc (show Arr w6.drew OB 26 n val from A6.out.1) _).grown hG7.out (fun h => by have := hob OB h.symm; omega)
        have f3 := HF7.out.cell hkl
        have t3 := HT7.out.cell hkl
        simp only [nv, upd_same] at f3 t3
        have a4 := HA7.out.cell hi1
        have a5 := HA7.out.free i1
        have HF8 : Hid (Arr (w7.setCell ⟨OB, i1, none⟩ (.slice (some ⟨g', 0, none⟩) (ll + 1) c')) FB 3 la (nv (upd x k i1))) := HF7.out.other (a := ⟨OB, i1, none⟩) (by simp only; omega) _
        have HT8 : Hid (Arr (w7.setCell ⟨OB, i1, none⟩ (.slice (some ⟨g', 0, none⟩) (ll + 1) c')) TB 3 la (nv (upd y k i2))) := HT7.out.other (a := ⟨OB, i1, none⟩) (by simp only; omega) _
        have f4 := HF8.out.cell hkl
        have t4 := HT8.out.cell hkl
        simp only [nv, upd_same] at f4 t4
        refine hK.out _ _ ⟨f3, t3⟩ (fun hHeld => ?_)
        clear hK K
        try simp only [Act.put, List.setIfInBounds_toArray, List.set_cons_zero, List.set_cons_succ]
        refine wpAnyH_take (i := 18) (v := ?_) (by simp only [List.getElem?_toArray, List.getElem?_cons_succ, List.getElem?_cons_zero]; rfl) (by kernel_rfl) (by kernel_rfl) (by kernel_rfl) (by exact fun _ _ _ h => h) (Or.inl ⟨by rfl, ?_⟩) (by assumption) ?_
        rotate_left
        · (intro w' hSw; (try dsimp only at hSw); go_simp <;> with_reducible rfl)
        try simp only [Act.put, List.setIfInBounds_toArray, List.set_cons_zero, List.set_cons_succ]
        refine wpAnyH_ready (rs := [19]) (by kernel_rfl) (by simp) ?_
        refine AllReadyH.cons (by simp only [List.getElem?_toArray, List.getElem?_cons_succ, List.getElem?_cons_zero]; rfl) (fun K hK => ?_) AllReadyH.nil
        go_simp
        refine hK.out _ _ ⟨f4, t4⟩ (fun hHeld => ?_)
        clear hK K
        try simp only [Act.put, List.setIfInBounds_toArray, List.set_cons_zero, List.set_cons_succ]
        refine wpAnyH_done (by kernel_rfl) ?_ _
        obtain ⟨w8, hw8⟩ : ∃ w8 : World, w8 = w7.setCell ⟨OB, i1, none⟩ (.slice (some ⟨g', 0, none⟩) (ll + 1) c') := ⟨_, rfl⟩
        rw [← hw8]
        have hGG : Hid ((w6.alloc (.cells #[.int .i64 (i2 : Nat)] 3)).grownBy w7 vd.ownBlock) := ⟨hG7.out.os, hG7.out.tape, hG7.out.output, hG7.out.size, hG7.out.block⟩
        have hMM : Hid (Moved (w6.alloc (.cells #[.int .i64 (i2 : Nat)] 3)) vd (.slice (some ⟨g', 0, none⟩) (ll + 1) c')) := hM7.out
        have A8 : Hid (OA w8 OB n (OB + 1) (upd O i1 (O i1 ++ [i2])) (upd val i1 (.slice (some ⟨g', 0, none⟩) (ll + 1) c'))) := by
          rw [hw8]
          exact A6.out.push (by omega) hi1 (by rw [← HLL.out]; exact hO7.out) (by rw [← HVD.out]; exact hGG.out) (by rw [← HVD.out]; exact hMM.out)
        have F8 : Hid (Arr w8 FB 3 la (nv (upd x k i1))) := by rw [hw8]; exact HF8.out
        have T8 : Hid (Arr w8 TB 3 la (nv (upd y k i2))) := by rw [hw8]; exact HT8.out
        have O8 : Hid (Only (fun y => vd.ownBlock = some y ∨ y = OB) w6 w8) := by
          rw [hw8]
          exact ((Only.alloc w6 _ _).trans ((Only.grown hGG.out).weak (fun i h => Or.inl h.symm))).trans (Only.put1' _ _ OB i1 _ (Or.inr rfl))
        have B8 : Hid (Below FB w1 w8) := B6.out.trans (O8.out.below (Nat.le_of_lt F6.out.lt) (fun y hy e => by
          rcases e with e | e
          · have := hob y e; omega
          · omega))
        have Z8 : Hid (OB + 1 ≤ w8.heap.size) := Nat.le_trans Z6.out O8.out.size
        clear hw8 f1 f2 f3 f4 t1 t2 t3 t4 a1 a2 a3 a4 a5
        go_wp2_with fail
        go_roundg (la - (k + 1))
        case measure => omega
        case rel => exact ⟨k + 1, upd x k i1, upd y k i2, upd O i1 (O i1 ++ [i2]), _, rfl, by omega, by go_num, F8, T8, A8, grow_ends hE.out hi1 E1.out hi2 E2.out, grow_mem hM.out, grow_len hL.out, Z8, B8⟩
      · go_simp
        refine hK.out _ _ ⟨f2, t2⟩ (fun hHeld => ?_)
        clear hK K
        try simp only [Act.put, List.setIfInBounds_toArray, List.set_cons_zero, List.set_cons_succ]
        refine wpAnyH_ready (rs := [11]) (by kernel_rfl) (by simp) ?_
        refine AllReadyH.cons (by simp only [List.getElem?_toArray, List.getElem?_cons_succ, List.getElem?_cons_zero]; rfl) (fun K hK => ?_) AllReadyH.nil
        go_simp
        refine hK.out _ _ ⟨f2, t2⟩ (fun hHeld => ?_)
        clear hK K
        try simp only [Act.put, List.setIfInBounds_toArray, List.set_cons_zero, List.set_cons_succ]
        refine wpAnyH_ready (rs := [17]) (by kernel_rfl) (by simp) ?_
        refine AllReadyH.cons (by simp only [List.getElem?_toArray, List.getElem?_cons_succ, List.getElem?_cons_zero]; rfl) (fun K hK => ?_) AllReadyH.nil
        refine step_app rfl (.tmp 67) (.tmp 72) 26 rfl (OB + 1) 3 (.int .i64 0) 8 Try.underlying26 Try.info3 rfl vd ll (nv (fun j => (O i1).getD j 0)) rfl (Own.alloc (show Own w6.drew (OB + 1) 3 vd ll (nv (fun j => (O i1).getD j 0)) from OW.out) _) _ 1 (.int .i64 (i2 : Nat)) rfl (cell_new _ _ _) rfl (by unfold maxLen; omega) (by omega) (by have := Z6.out; simp; omega) ?_
        intro v' w7 hO7 hG7 hM7
        obtain ⟨g', c', rfl⟩ := hO7.out.some_
        have hob : ∀ k, vd.ownBlock = some k → OB + 1 ≤ k := fun k hk => (OW.out.lt k hk).1
        have HF7 : Hid (Arr w7 FB 3 la (nv (upd x k i1))) := (Arr.alloc (show Arr w6.drew FB 3 la (nv (upd x k i1)) from F6.out) _).grown hG7.out (fun h => by have := hob FB h.symm; omega)
        have HT7 : Hid (Arr w7 TB 3 la (nv (upd y k i2))) := (Arr.alloc (show Arr w6.drew TB 3 la (nv (upd y k i2)) from T6.out) _).grown hG7.out (fun h => by have := hob TB h.symm; omega)
        have HA7 : Hid (Arr w7 OB 26 n val) := (Arr.alloc (show Arr w6.drew OB 26 n val from A6.out.1) _).grown hG7.out (fun h => by have := hob OB h.symm; omega)
        have f3 := HF7.out.cell hkl
        have t3 := HT7.out.cell hkl
        simp only [nv, upd_same] at f3 t3
        have a4 := HA7.out.cell hi1
        have a5 := HA7.out.free i1
        have HF8 : Hid (Arr (w7.setCell ⟨OB, i1, none⟩ (.slice (some ⟨g', 0, none⟩) (ll + 1) c')) FB 3 la (nv (upd x k i1))) := HF7.out.other (a := ⟨OB, i1, none⟩) (by simp only; omega) _
        have HT8 : Hid (Arr (w7.setCell ⟨OB, i1, none⟩ (.slice (some ⟨g', 0, none⟩) (ll + 1) c')) TB 3 la (nv (upd y k i2))) := HT7.out.other (a := ⟨OB, i1, none⟩) (by simp only; omega) _
        have f4 := HF8.out.cell hkl
        have t4 := HT8.out.cell hkl
        simp only [nv, upd_same] at f4 t4
        refine hK.out _ _ ⟨f3, t3⟩ (fun hHeld => ?_)
        clear hK K
        try simp only [Act.put, List.setIfInBounds_toArray, List.set_cons_zero, List.set_cons_succ]
        refine wpAnyH_take (i := 18) (v := ?_) (by simp only [List.getElem?_toArray, List.getElem?_cons_succ, List.getElem?_cons_zero]; rfl) (by kernel_rfl) (by kernel_rfl) (by kernel_rfl) (by exact fun _ _ _ h => h) (Or.inl ⟨by rfl, ?_⟩) (by assumption) ?_
        rotate_left
        · (intro w' hSw; (try dsimp only at hSw); go_simp <;> with_reducible rfl)
        try simp only [Act.put, List.setIfInBounds_toArray, List.set_cons_zero, List.set_cons_succ]
        refine wpAnyH_ready (rs := [19]) (by kernel_rfl) (by simp) ?_
        refine AllReadyH.cons (by simp only [List.getElem?_toArray, List.getElem?_cons_succ, List.getElem?_cons_zero]; rfl) (fun K hK => ?_) AllReadyH.nil
        go_simp
        refine hK.out _ _ ⟨f4, t4⟩ (fun hHeld => ?_)
        clear hK K
        try simp only [Act.put, List.setIfInBounds_toArray, List.set_cons_zero, List.set_cons_succ]
        refine wpAnyH_done (by kernel_rfl) ?_ _
        obtain ⟨w8, hw8⟩ : ∃ w8 : World, w8 = w7.setCell ⟨OB, i1, none⟩ (.slice (some ⟨g', 0, none⟩) (ll + 1) c') := ⟨_, rfl⟩
        rw [← hw8]
        have hGG : Hid ((w6.alloc (.cells #[.int .i64 (i2 : Nat)] 3)).grownBy w7 vd.ownBlock) := ⟨hG7.out.os, hG7.out.tape, hG7.out.output, hG7.out.size, hG7.out.block⟩
        have hMM : Hid (Moved (w6.alloc (.cells #[.int .i64 (i2 : Nat)] 3)) vd (.slice (some ⟨g', 0, none⟩) (ll + 1) c')) := hM7.out
        have A8 : Hid (OA w8 OB n (OB + 1) (upd O i1 (O i1 ++ [i2])) (upd val i1 (.slice (some ⟨g', 0, none⟩) (ll + 1) c'))) := by
          rw [hw8]
          exact A6.out.push (by omega) hi1 (by rw [← HLL.out]; exact hO7.out) (by rw [← HVD.out]; exact hGG.out) (by rw [← HVD.out]; exact hMM.out)
        have F8 : Hid (Arr w8 FB 3 la (nv (upd x k i1))) := by rw [hw8]; exact HF8.out
        have T8 : Hid (Arr w8 TB 3 la (nv (upd y k i2))) := by rw [hw8]; exact HT8.out
        have O8 : Hid (Only (fun y => vd.ownBlock = some y ∨ y = OB) w6 w8) := by
          rw [hw8]
          exact ((Only.alloc w6 _ _).trans ((Only.grown hGG.out).weak (fun i h => Or.inl h.symm))).trans (Only.put1' _ _ OB i1 _ (Or.inr rfl))
        have B8 : Hid (Below FB w1 w8) := B6.out.trans (O8.out.below (Nat.le_of_lt F6.out.lt) (fun y hy e => by
          rcases e with e | e
          · have := hob y e; omega
          · omega))
        have Z8 : Hid (OB + 1 ≤ w8.heap.size) := Nat.le_trans Z6.out O8.out.size
        clear hw8 f1 f2 f3 f4 t1 t2 t3 t4 a1 a2 a3 a4 a5
        go_wp2_with fail
        go_roundg (la - (k + 1))
        case measure => omega
        case rel => exact ⟨k + 1, upd x k i1, upd y k i2, upd O i1 (O i1 ++ [i2]), _, rfl, by omega, by go_num, F8, T8, A8, grow_ends hE.out hi1 E1.out hi2 E2.out, grow_mem hM.out, grow_len hL.out, Z8, B8⟩
    · obtain rfl : la = k := by omega
      obtain ⟨d, hd⟩ : ∃ d, d = (n + 63) / 64 := ⟨_, rfl⟩
      have hdI : ((n : Int) + 63) / 64 = (d : Int) := by omega
      have hd1 : n ≤ d * 64 := by omega
      have hd2 : d ≤ 200 := by omega
      clear hd
      obtain ⟨w9, hw9⟩ : ∃ w9 : World, w9 = wr := ⟨_, rfl⟩
      rw [← hw9] at hF hT hA hZ hB
      rw [← hw9]
      clear hw9
      have HOn : Hid (∀ v z, z ∈ O v → z < n) := fun v z hz => by
        obtain ⟨j, hj, _, e⟩ := (hM.out v z).1 hz
        rw [← e]; exact (hE.out j hj).2.2.1
      go_upto_region 14 with (
        go_at_call 12
        refine (reach_any w9 n d OB O (by omega) hd2 hd1 hA.out.view HOn.out (fun v => by have := hL.out v; omega)).mono ?_
        rintro e w10 ⟨R, W, S, rfl, hR1, hR2, hR3, hR4, hR5⟩
        have HR2 : Hid (Arr w10 R 59 (n * d) (wv W)) := hR2
        have HR3 : Hid (WI n d W S) := hR3
        have HR4 : Hid (∀ u v, u < n → v < n → (S u v = true ↔ Plain.Reach O u v)) := hR4
        have HR5 : Hid (Below w9.heap.size w9 w10) := hR5
        clear hR1 hR2 hR3 hR4 hR5)
      have hmk := run_make_row' (P := Try.prog) 26 3 (.int .i64 0) 8 Try.underlying26 Try.info3 rfl .i64 .i64 n (by omega) (by omega) w10
      go_upto_region 15 with fail
      obtain ⟨w11, hw11⟩ : ∃ w11 : World, w11 = w10.alloc (.cells (madeCells #[.int .i64 0] n) 3) := ⟨_, rfl⟩
      rw [← hw11]
      obtain ⟨CB, hCB⟩ : ∃ CB, CB = w10.heap.size := ⟨_, rfl⟩
      rw [← hCB]
      have C11 : Hid (Arr w11 CB 3 n (nv (fun _ => 0))) := by rw [hw11, hCB]; exact made_at' w10 3 n (.int .i64 0)
      have R11 : Hid (Arr w11 R 59 (n * d) (wv W)) := by rw [hw11]; exact HR2.out.alloc _
      have O11 : Hid (Below w9.heap.size w9 w11) := by rw [hw11]; exact HR5.out.trans ((Only.alloc w10 _ (fun _ => False)).below HR5.out.size (fun _ _ => id))
      have hCR : R < CB := by rw [hCB]; exact HR2.out.lt
      have hC9 : w9.heap.size ≤ CB := by rw [hCB]; exact HR5.out.size
      clear hw11 hCB hmk HR2 HR5
      go_wp2_with fail
      go_loopg [17, 18] n (fun z c17 c18 wr => ∃ (v : Nat) (cp : Nat → Nat) (u18 : Value), z = n - v ∧ v ≤ n ∧ c17 = .int .i64 v ∧ c18 = u18 ∧ Hid (Arr wr CB 3 n (nv cp)) ∧ Hid (∀ v', v' < v → Least1 O v' (cp v')) ∧ Hid (Only (fun y => y = CB) w11 wr))
      case atStart => exact ⟨0, _, _, by omega, by omega, rfl, rfl, C11, fun v' h => by omega, Only.refl _ _⟩
      case round =>
        obtain ⟨v, cp, u18, rfl, hv, rfl, rfl, hC, hL1, hOn⟩ := hrel
        by_cases hvn : v < n
        · go_wp2_with fail
          go_loopg [18] (v + 1) (fun z c18 wr => ∃ (u : Nat), z = v + 1 - u ∧ u ≤ v ∧ c18 = .int .i64 u ∧ Hid (∀ u', u' < u → ¬ (S u' v = true ∧ S v u' = true)) ∧ Hid (Arr wr CB 3 n (nv cp)) ∧ Hid (Only (fun y => y = CB) w11 wr))
          case atStart => exact ⟨0, by omega, by omega, rfl, fun u' h => by omega, hC, hOn⟩
          case round =>
            clear hC hOn
            obtain ⟨u, rfl, hu, rfl, hN, hC, hOn⟩ := hrel
            have Rr : Hid (Arr wr R 59 (n * d) (wv W)) := R11.out.only hOn.out (by omega)
            have hun : u < n := by omega
            have hvv : u = v → S u v = true ∧ S v u = true := fun e => by
              rw [e]
              have := (HR4.out v v hvn hvn).2 (Plain.Reach.refl O v)
              exact ⟨this, this⟩
            have HVV : Hid (u = v → S u v = true ∧ S v u = true) := hvv
            clear hvv
            cases hs1 : S u v with
            | false =>
              have hne : u ≠ v := fun e => by rw [(HVV.out e).1] at hs1; cases hs1
              have HS1 : Hid (S u v = false) := hs1
              go_wp2_with (
                go_at_call 13
                refine (has_any wr R n d u v W S Rr.out HR3.out hun hvn (by omega) hd2 hd1).mono ?_
                rintro e w' ⟨rfl, hw⟩
                obtain rfl := hw.symm)
              go_roundg (v + 1 - (u + 1))
              case measure => omega
              case rel => exact ⟨u + 1, rfl, by omega, by go_num, fun u' h => (by
                by_cases e : u' = u
                · rw [e, HS1.out]; rintro ⟨h, _⟩; cases h
                · exact hN.out u' (by omega)), hC, hOn⟩
            | true =>
              cases hs2 : S v u with
              | false =>
                have hne : u ≠ v := fun e => by rw [(HVV.out e).2] at hs2; cases hs2
                have HS2 : Hid (S v u = false) := hs2
                have G1 : Hid True := trivial
                go_wp2_with (first
                  | (
                    go_at_call 13
                    clear G1
                    refine (has_any wr R n d u v W S Rr.out HR3.out hun hvn (by omega) hd2 hd1).mono ?_
                    rintro e w' ⟨rfl, hw⟩
                    obtain rfl := hw.symm)
                  | (
                    go_at_call 13
                    refine (has_any wr R n d v u W S Rr.out HR3.out hvn hun (by omega) hd2 hd1).mono ?_
                    rintro e w' ⟨rfl, hw⟩
                    obtain rfl := hw.symm))
                go_roundg (v + 1 - (u + 1))
                case measure => omega
                case rel => exact ⟨u + 1, rfl, by omega, by go_num, fun u' h => (by
                  by_cases e : u' = u
                  · rw [e, HS2.out]; rintro ⟨_, h⟩; cases h
                  · exact hN.out u' (by omega)), hC, hOn⟩
              | true =>
                have HS1 : Hid (S u v = true) := hs1
                have HS2 : Hid (S v u = true) := hs2
                have G1 : Hid True := trivial
                have c1 := hC.out.cell hvn
                have c2 := hC.out.free v
                go_wp2_with (first
                  | (
                    go_at_call 13
                    clear G1
                    refine (has_any wr R n d u v W S Rr.out HR3.out hun hvn (by omega) hd2 hd1).mono ?_
                    rintro e w' ⟨rfl, hw⟩
                    obtain rfl := hw.symm)
                  | (
                    go_at_call 13
                    refine (has_any wr R n d v u W S Rr.out HR3.out hvn hun (by omega) hd2 hd1).mono ?_
                    rintro e w' ⟨rfl, hw⟩
                    obtain rfl := hw.symm))
                go_roundg (n - (v + 1))
                case measure => omega
                case rel =>
                  refine ⟨v + 1, upd cp v u, _, rfl, by omega, by go_num, rfl, ?_, fun v' h => ?_, hOn.out.trans (Only.setCell wr ⟨CB, v, none⟩ _)⟩
                  · have := hC.out.set v (.int .i64 (u : Nat))
                    rw [upd_nv] at this
                    exact this
                  · by_cases e : v' = v
                    · rw [e, upd_same]
                      refine ⟨hu, (HR4.out u v hun hvn).1 HS1.out, (HR4.out v u hvn hun).1 HS2.out, fun u' h' hr => hN.out u' h' ⟨(HR4.out u' v (by omega) hvn).2 hr.1, (HR4.out v u' hvn (by omega)).2 hr.2⟩⟩
                    · rw [upd_other _ _ _ _ e]; exact hL1.out v' (by omega)
        · obtain rfl : n = v := by omega
          have F12 : Hid (Arr wr FB 3 la (nv x)) := (hF.out.below O11.out hF.out.lt).only hOn.out (by have := hF.out.lt; omega)
          have T12 : Hid (Arr wr TB 3 la (nv y)) := (hT.out.below O11.out hT.out.lt).only hOn.out (by have := hT.out.lt; omega)
          have B12 : Hid (Below FB w1 wr) := (hB.out.trans (O11.out.mono (Nat.le_of_lt hF.out.lt))).trans (hOn.out.below (Nat.le_trans (Nat.le_of_lt hF.out.lt) O11.out.size) (fun y hy e => by have := hF.out.lt; omega))
          have N12 : Hid (Row wr NB 9 n (sv f)) := HN1.out.below B12.out (by rw [HFB.out]; exact HN1.out.lt)
          go_wp2_with fail
          try simp only [Exit.inBlock, Exit.then]
          refine bodyPost_ret (results_tmp4 rfl _ _ _) rfl ?_
          exact ⟨NB, n, nc, f, FB, TB, CB, x, y, cp, O, rfl, N12.out, F12.out, T12.out, hC.out, HNM.out, hE.out, hM.out, hL1.out, (W1.out wr B12.out).1⟩
end Go.Proofs.Qxb6616383a
