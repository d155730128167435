/-
  The walk of findGroups (33): the groups of the graph, numbered by first occurrence, and each group's members.
  Region 59 is walked by hand (the steps of 'go_region_held3' written out): one of its loads reads a cell that the region's
  last store turns, so that no held condition can name it.
-/
import Derived.Test.Qxb6616383aPath
import Derived.Deep.OwnRows
import Derived.Deep.RegionHeld3
import Derived.Test.Qxb6616383aGroups
import Derived.Test.Qxb6616383aSearch
namespace Go.Proofs.Qxb6616383a
open Go.RowKit
open Plain
theorem New.alloc (w : World) (o : Obj) : New w (w.alloc o) := ⟨⟨rfl, rfl, rfl, by simp, fun k hk => Below.heap_alloc _ _ _ hk⟩, by simp⟩
theorem push4 (h : Array Obj) (a b c d : Obj) (k : Nat) : ((((h.push a).push b).push c).push d)[k]? = if k = h.size + 3 then some d else if k = h.size + 2 then some c else if k = h.size + 1 then some b else if k = h.size then some a else h[k]? := by
  simp only [Array.getElem?_push, Array.size_push]
theorem made_zeros (z : Value) (n : Nat) : madeCells #[z] n = ((List.range n).map (fun _ => z)).toArray := by
  apply Array.ext'
  simp only [madeCells, Array.toList_map, Array.toList_range]
  apply List.ext_getElem
  · simp
  · intro i h1 h2
    simp [Nat.mod_one]
theorem Own2.shape {w : World} {B n : Nat} {v : Value} {Q : Nat → Nat → Nat} (h : Own2 w B v n Q) : ∃ ao c, v = .slice ao n c := by
  rcases h.2 with ⟨h, h0⟩ | ⟨g, cap, cur, h, _⟩
  · exact ⟨none, 0, by rw [h, h0]⟩
  · exact ⟨_, _, h⟩
theorem TAt.setC {w : World} {t : TB} {n vis : Nat} {ord low : Nat → Nat} {opn : Nat → Bool} {vs : Value} {sl : Nat} {sf : Nat → Nat} (h : TAt w t n vis ord low opn vs sl sf) {C : Nat} (hC : C < t.K ∧ C ≠ t.V ∧ C ≠ t.BO ∧ C ≠ t.O ∧ C ≠ t.BL ∧ C ≠ t.L ∧ C ≠ t.BS ∧ C ≠ t.BP ∧ C ≠ t.Q) (i : Nat) (u : Value) : TAt (w.setCell ⟨C, i, none⟩ u) t n vis ord low opn vs sl sf := by
  have ha := h.apart
  obtain ⟨h0, h1, h2, h3, h4, h5, h6, h7, h8⟩ := hC
  exact ⟨h.hV.other h1.symm _, h.hBO.other h2.symm _, h.hO.other h3.symm _, h.hBL.other h4.symm _, h.hL.other h5.symm _, h.hBS.other h6.symm _, h.hS.setCell (fun e => absurd (ha _ e) (Nat.not_le.2 h0)) _, h.hBP.other h7.symm _, h.hQ.other h8.symm _, by rw [size_setCell]; exact h.hK, h.ok⟩
theorem TAt.popd {w : World} {t : TB} {n vis : Nat} {ord low : Nat → Nat} {opn : Nat → Bool} {gs s cs : Nat} {sf : Nat → Nat} (h : TAt w t n vis ord low opn (.slice (some ⟨gs, 0, none⟩) (s + 1) cs) (s + 1) sf) (x : Nat) : TAt ((w.setCell ⟨t.BS, 0, none⟩ (.slice (some ⟨gs, 0, none⟩) s cs)).setCell ⟨t.Q, x, none⟩ (.bool false)) t n vis ord low (upd opn x false) (.slice (some ⟨gs, 0, none⟩) s cs) s sf :=
  (TAt.setS h (Only.refl _ _) h.hS.shorter).setQ x false
theorem TAt.drew {w : World} {t : TB} {n vis : Nat} {ord low : Nat → Nat} {opn : Nat → Bool} {vs : Value} {sl : Nat} {sf : Nat → Nat} (h : TAt w t n vis ord low opn vs sl sf) (k : Nat) : TAt (w.drewN k) t n vis ord low opn vs sl sf := h.only (Only.drewN _ k (fun _ => False)) (fun _ _ => id) (fun _ _ => id)
theorem Only.put1 (S : Nat → Prop) (w : World) (b o : Nat) (v : Value) (h : S b) : Only S w (w.setCell ⟨b, o, none⟩ v) := (Only.setCell w ⟨b, o, none⟩ v).weak (fun i e => by
  have e' : i = b := e
  rw [e']; exact h)
/-- 'append' of one in place, wherever in the block, as one step of a region that draws. -/
theorem step_app_at {P : Program} {ops : Array Oper} {o : Oper} {a : Act} {w : World} {K : Act → World → Prop} {Q : Exit → Act → World → Prop} {E : Prop}
    (hgd : o.guard = none) (s x : Operand) (t : TypeId) (ho : o.op = .call { callee := .builtin .append, args := #[s, x], argTypes := #[t, t] })
    (e : TypeId) (z : Value) (bytes : Nat) (ht : P.underlying t = some (.slice e)) (h2 : (P.info? e).map (fun i => (i.zero, i.size, i.bytes)) = some (some z, 1, bytes))
    (b off n cap m : Nat) (f : Nat → Value) (hs : a.eval s = .slice (some ⟨b, off, none⟩) n cap) (hA : Arr w b e m f) (hin : off + n < m) (hfit : n + 1 ≤ cap)
    (g c : Nat) (y : Value) (hx : a.eval x = .slice (some ⟨g, 0, none⟩) 1 c) (hy : w.cell? ⟨g, 0, none⟩ = some y) (h1 : y.oneCell' = true)
    (h : ∀ w', Hid (Arr w' b e m (upd f (off + n) y)) → Hid (Only (fun k => k = b) w w') → K (a.put o.dst (.slice (some ⟨b, off, none⟩) (n + 1) cap)) w') :
    if Region.wanted o (yielded ops a.tmps) = true then Oper.wp P o a w K Q else E := by
  have hw : Region.wanted o (yielded ops a.tmps) = true := by simp [Region.wanted, hgd]
  rw [if_pos hw]
  obtain ⟨i, hi, hz1, hz2, hz3⟩ := info_parts h2
  have hrun := run_append_room_cells (P := P) w t o.type e i ht hi b off n cap ⟨g, 0, none⟩ 1 c [y] (by rw [hz2]; rfl) (one_cell hy) (by simpa using h1) hfit (fun j hj => by
    have : j = 0 := by simpa using hj
    subst this
    rw [hz2, Nat.mul_one, Nat.add_zero, hA.cell hin]; rfl) (fun j hj => hA.free _)
  rw [hz2, Nat.mul_one] at hrun
  have es : w.setCells b (off + n) [y] = w.setCell ⟨b, off + n, none⟩ y := by simp [World.setCells]
  rw [es] at hrun
  unfold Oper.wp
  simp [execOp, ho, resolve, invoke, builtin, hs, hx, hrun, Result.andThen]
  exact h _ (hA.set (off + n) y) (Only.put1 (fun k => k = b) w b (off + n) y rfl)
theorem Own.setIn {w : World} {B t n g c : Nat} {f : Nat → Value} (h : Own w B t (.slice (some ⟨g, 0, none⟩) n c) n f) {i : Nat} (hi : i < n) (u : Value) : Own (w.setCell ⟨g, i, none⟩ u) B t (.slice (some ⟨g, 0, none⟩) n c) n (upd f i u) := by
  rcases h.2 with ⟨h0, _⟩ | ⟨g', cap, cur, hv, hB, hgg, hnc, hm, hs, ht⟩
  · cases h0
  · simp only [Value.slice.injEq, Option.some.injEq, Addr.mk.injEq] at hv
    obtain ⟨⟨rfl, _⟩, _, rfl⟩ := hv
    refine ⟨by simp, .inr ⟨g, c, _, rfl, hB, heap_setCell_at w g _ _ cur t (0, 0) hgg, hnc, hm, by simpa using hs, ?_⟩⟩
    apply List.ext_getElem?
    intro k
    rw [List.getElem?_take]
    by_cases hk : k < n * 1
    · rw [if_pos hk]
      have h1 : (cur.toList.take (n * 1))[k]? = some (f k) := by rw [ht]; simp [show k < n by omega]
      rw [List.getElem?_take, if_pos hk] at h1
      simp only [Array.toList_setIfInBounds, List.getElem?_set, List.getElem?_map, List.getElem?_range (show k < n by omega), Option.map_some]
      by_cases e : i = k
      · subst e
        rw [if_pos rfl, if_pos (by simp; omega)]
        simp [upd]
      · rw [if_neg e, h1]
        simp [upd, Ne.symm e]
    · rw [if_neg hk, List.getElem?_eq_none (by simp; omega)]
theorem run_make_row0 {P : Program} (t e : TypeId) (z : Value) (bytes : Nat) (ht : P.underlying t = some (.slice e)) (hinfo : (P.info? e).map (fun i => (i.zero, i.size, i.bytes)) = some (some z, 1, bytes)) (hz1 : z.cells = #[z])
    (kl kc : IntKind) (n : Nat) (hbytes : bytes * n ≤ 281474976710656) (h63 : n ≤ 9223372036854775807) (w : World) :
    (Instr.makeSlice t (.int kl 0) (.int kc (n : Int))).run P w = .ok (.slice (some ⟨w.heap.size, 0, none⟩) 0 n) (w.alloc (.cells (madeCells #[z] n) e)) := by
  obtain ⟨i, hi, hz, hs, hb⟩ := info_parts hinfo
  have hb' : (i.bytes : Int) * (n : Int) ≤ 281474976710656 := by
    have h : ((i.bytes * n : Nat) : Int) ≤ 281474976710656 := by rw [hb]; omega
    rwa [Int.natCast_mul] at h
  have hr := run_make (P := P) w t e i z ht hi hz kl kc 0 n (Int.le_refl _) (by omega) hb' (by omega)
  simp only [Int.toNat_zero, Int.toNat_natCast, hs, Nat.mul_one, hz1] at hr
  exact hr
theorem pre_cover {grp : Nat → Nat} {n : Nat} : ∀ G i, i < pre grp n G → ∃ g j, g < G ∧ j < cnt grp g n ∧ i = pre grp n g + j := by
  intro G
  induction G with
  | zero => intro i h; simp [pre] at h
  | succ G ih =>
    intro i h
    by_cases h1 : i < pre grp n G
    · obtain ⟨g, j, a, b, c⟩ := ih i h1
      exact ⟨g, j, by omega, b, c⟩
    · simp only [pre] at h
      exact ⟨G, i - pre grp n G, by omega, by omega, by omega⟩
theorem made_at (w : World) (t n : Nat) (z : Value) : Arr (w.alloc (.cells (madeCells #[z] n) t)) w.heap.size t n (fun _ => z) := by
  unfold Arr
  rw [heap_alloc_last, made_zeros]
/-- The two rows and their boxes. -/
structure FourAt (w wc : World) (n O BO L BL : Nat) : Prop where
  a1 : Arr wc O 3 n (fun _ => .int .i64 0)
  a2 : Arr wc BO 26 1 (fun _ => .slice (some ⟨O, 0, none⟩) n n)
  a3 : Arr wc L 3 n (fun _ => .int .i64 0)
  a4 : Arr wc BL 26 1 (fun _ => .slice (some ⟨L, 0, none⟩) n n)
  below : Below w.heap.size w wc
  size : wc.heap.size = w.heap.size + 4
  d1 : O ≠ BO ∧ O ≠ L ∧ O ≠ BL ∧ BO ≠ L ∧ BO ≠ BL ∧ L ≠ BL
  ge : w.heap.size ≤ O ∧ w.heap.size ≤ BO ∧ w.heap.size ≤ L ∧ w.heap.size ≤ BL
theorem FourAt.of (w : World) (n : Nat) (a b c d : Obj) (O BO L BL : Nat)
    (h1 : ((((w.heap.push a).push b).push c).push d)[O]? = some (.cells (madeCells #[.int .i64 0] n) 3)) (h2 : ((((w.heap.push a).push b).push c).push d)[BO]? = some (.cells #[.slice (some ⟨O, 0, none⟩) n n] 26))
    (h3 : ((((w.heap.push a).push b).push c).push d)[L]? = some (.cells (madeCells #[.int .i64 0] n) 3)) (h4 : ((((w.heap.push a).push b).push c).push d)[BL]? = some (.cells #[.slice (some ⟨L, 0, none⟩) n n] 26))
    (d1 : O ≠ BO ∧ O ≠ L ∧ O ≠ BL ∧ BO ≠ L ∧ BO ≠ BL ∧ L ≠ BL) (ge : w.heap.size ≤ O ∧ w.heap.size ≤ BO ∧ w.heap.size ≤ L ∧ w.heap.size ≤ BL) : FourAt w ((((w.alloc a).alloc b).alloc c).alloc d).drew n O BO L BL := by
  rw [made_zeros] at h1 h3
  refine ⟨h1, h2, h3, h4, ?_, ?_, d1, ge⟩
  · refine ⟨rfl, rfl, rfl, ?_, fun k hk => ?_⟩
    · show w.heap.size ≤ ((((w.heap.push a).push b).push c).push d).size
      simp; omega
    · show ((((w.heap.push a).push b).push c).push d)[k]? = _
      rw [push4, if_neg (by omega), if_neg (by omega), if_neg (by omega), if_neg (by omega)]
  · show ((((w.heap.push a).push b).push c).push d).size = _
    simp
set_option maxRecDepth 100000 in
set_option maxHeartbeats 4000000 in
theorem groups_any (w : World) (b NB n LD AD : Nat) (F : Nat → Value) (D : Nat → List Nat) (hb : Arr w b 56 14 F) (h4 : F 4 = .slice (some ⟨NB, 0, none⟩) n n) (h6 : F 6 = .slice (some ⟨LD, 0, none⟩) n n) (hD : Lists w LD AD n D) (hDn : ∀ u x, x ∈ D u → x < n) (hDl : ∀ u, (D u).length ≤ 100000) (hn : n ≤ 100000) (_h1 : b < LD) (_h2 : b < AD) :
    Calls Try.prog 33 #[.pointer (some ⟨b, 0, none⟩)] w fun e w' => e = .returned (.tuple #[]) ∧ ∃ grp G GA LM AM, Arr w' b 56 14 (upd (upd F 8 (.slice (some ⟨GA, 0, none⟩) n n)) 9 (.slice (some ⟨LM, 0, none⟩) G G)) ∧ Arr w' GA 3 n (nv grp) ∧ Lists w' LM AM G (memb grp n) ∧ Gr n D grp G ∧ Only (fun k => k = b) w w' ∧ w.heap.size ≤ GA ∧ w.heap.size ≤ LM ∧ w.heap.size ≤ AM := by
  have c4 := hb.cell (i := 4) (by omega)
  rw [h4] at c4
  have hmk := run_make_row' (P := Try.prog) 26 3 (.int .i64 0) 8 Try.underlying26 Try.info3 rfl .i64 .i64 n (by omega) (by omega)
  have HB : Hid (Arr w b 56 14 F) := hb
  have HD : Hid (Lists w LD AD n D) := hD
  have HDN : Hid (∀ u x, x ∈ D u → x < n) := hDn
  have HDL : Hid (∀ u, (D u).length ≤ 100000) := hDl
  clear hb hD hDn hDl
  go_enter Try.func33, Try.ntmps33
  go_upto_region 1 with fail
  go_cut [3, 4, 31, 33] from 30 to 33 (fun p3 p4 s31 s33 wc => ∃ O BO L BL, p3 = .pointer (some ⟨BO, 0, none⟩) ∧ p4 = .pointer (some ⟨BL, 0, none⟩) ∧ s31 = .slice (some ⟨O, 0, none⟩) n n ∧ s33 = .slice (some ⟨L, 0, none⟩) n n ∧ FourAt w wc n O BO L BL)
  case first =>
    as_aux_lemma =>
      go_region
      all_goals (
        go_wp2_with fail
        go_meet
        refine ⟨_, _, _, _, rfl, rfl, rfl, rfl, FourAt.of w n _ _ _ _ _ _ _ _ ?_ ?_ ?_ ?_ ?_ ?_⟩
        · rw [push4]; simp
        · rw [push4]; simp
        · rw [push4]; simp
        · rw [push4]; simp
        · omega
        · omega)
  case rest =>
    obtain ⟨O, BO, L, BL, rfl, rfl, rfl, rfl, h4'⟩ := hcut
    have H4 : Hid (FourAt w wc n O BO L BL) := h4'
    clear h4'
    have hmf : ∀ (fn : Fn) (first cap : Array Value) (w : World), (Instr.makeFunc fn first cap).run Try.prog w = .ok (.func fn first cap) w := fun _ _ _ _ => rfl
    obtain ⟨K0, hK0⟩ : ∃ K0, K0 = wc.heap.size := ⟨_, rfl⟩
    have hmkb := run_make_row' (P := Try.prog) 23 4 (.bool false) 1 Try.underlying23 Try.info4 rfl .i64 .i64 n (by omega) (by omega)
    go_upto_region 3 with fail
    obtain ⟨w5, hw5⟩ : ∃ w5 : World, w5 = wc.alloc (.cells (madeCells #[.bool false] n) 4) := ⟨_, rfl⟩
    rw [← hw5]
    have hA5 : Hid (Arr w5 wc.heap.size 4 n (fun _ => .bool false)) := by rw [hw5]; exact made_at _ _ _ _
    have hN5 : Hid (New wc w5) := by rw [hw5]; exact New.alloc _ _
    have HS5 : Hid (w5.heap.size = wc.heap.size + 1) := by show _ = _; rw [hw5]; simp
    clear hw5 hmkb
    have N5 : Hid (New wc w5) := hN5
    obtain ⟨w6, hw6⟩ : ∃ w6 : World, w6 = w5.alloc (.cells #[.slice (some ⟨wc.heap.size, 0, none⟩) n n] 23) := ⟨_, rfl⟩
    rw [← hw6]
    have T6 : Hid (Arr w6 w5.heap.size 23 1 (fun _ => .slice (some ⟨wc.heap.size, 0, none⟩) n n)) := by rw [hw6]; exact Arr.one _ _ _
    have N6 : Hid (New w5 w6) := by rw [hw6]; exact New.alloc _ _
    clear hw6
    go_upto_region 4 with fail
    obtain ⟨w7, hw7⟩ : ∃ w7 : World, w7 = w6.alloc (.cells #[.slice none 0 0] 26) := ⟨_, rfl⟩
    rw [← hw7]
    have T7 : Hid (Arr w7 w6.heap.size 26 1 (fun _ => .slice none 0 0)) := by rw [hw7]; exact Arr.one _ _ _
    have N7 : Hid (New w6 w7) := by rw [hw7]; exact New.alloc _ _
    clear hw7
    go_upto_region 5 with fail
    obtain ⟨w8, hw8⟩ : ∃ w8 : World, w8 = w7.alloc (.cells (madeCells #[.int .i64 0] n) 3) := ⟨_, rfl⟩
    rw [← hw8]
    have hA8 : Hid (Arr w8 w7.heap.size 3 n (fun _ => .int .i64 0)) := by rw [hw8]; exact made_at _ _ _ _
    have hN8 : Hid (New w7 w8) := by rw [hw8]; exact New.alloc _ _
    clear hw8
    go_upto_region 6 with fail
    obtain ⟨w9, hw9⟩ : ∃ w9 : World, w9 = w8.alloc (.cells #[.int .i64 0] 3) := ⟨_, rfl⟩
    rw [← hw9]
    have T9 : Hid (Arr w9 w8.heap.size 3 1 (fun _ => .int .i64 0)) := by rw [hw9]; exact Arr.one _ _ _
    have N9 : Hid (New w8 w9) := by rw [hw9]; exact New.alloc _ _
    have s5 := hK0
    clear hw9
    obtain ⟨t, C, ht, hs⟩ : ∃ (t : TB) (C : Nat), t = ⟨w8.heap.size, BO, O, BL, L, w6.heap.size, w5.heap.size, wc.heap.size, w9.heap.size⟩ ∧ C = w7.heap.size := ⟨_, _, rfl, rfl⟩
    have HT : Hid (TAt w9 t n 0 (fun _ => 0) (fun _ => 0) (fun _ => false) (.slice none 0 0) 0 (fun _ => 0)) := by
      have n5 := N5.out.lt
      have n6 := N6.out.lt
      have n7 := N7.out.lt
      have n8 := hN8.out.lt
      have n9 := N9.out.lt
      have d := H4.out.d1
      have z4 := H4.out.size
      have lO := H4.out.a1.lt
      have lBO := H4.out.a2.lt
      have lL := H4.out.a3.lt
      have lBL := H4.out.a4.lt
      have b5 : ∀ {bb tt nn : Nat} {f : Nat → Value}, Arr wc bb tt nn f → Arr w9 bb tt nn f := fun h => ((((h.new N5.out).new N6.out).new N7.out).new hN8.out).new N9.out
      rw [ht]
      exact ⟨T9, b5 H4.out.a2, b5 H4.out.a1, b5 H4.out.a4, b5 H4.out.a3, (T7.out.new hN8.out).new N9.out, Own.nil _ _ _ _, ((T6.out.new N7.out).new hN8.out).new N9.out, (((hA5.out.new N6.out).new N7.out).new hN8.out).new N9.out, Nat.le_refl _, ⟨by simp; omega, by simp; omega, by simp; omega, by simp; omega, by simp; omega, by simp; omega, by simp; omega, by simp; omega, by simp; omega, by simp; omega, by simp; omega, by simp; omega, by simp; omega, by simp; omega, by simp; omega, by simp; omega, by simp; omega, by simp; omega, by simp; omega, by simp; omega, by simp; omega, by simp; omega, by simp; omega, by simp; omega, by simp; omega, by simp; omega, by simp; omega, by simp; omega, by simp; omega, by simp; omega, by simp; omega, by simp; omega, by simp; omega, by simp; omega, by simp; omega, by simp; omega⟩⟩
    have HCD : Hid (C < t.K ∧ C ≠ t.V ∧ C ≠ t.BO ∧ C ≠ t.O ∧ C ≠ t.BL ∧ C ≠ t.L ∧ C ≠ t.BS ∧ C ≠ t.BP ∧ C ≠ t.Q) := by
      have n5 := N5.out.lt
      have n6 := N6.out.lt
      have n7 := N7.out.lt
      have n8 := hN8.out.lt
      have n9 := N9.out.lt
      have lO := H4.out.a1.lt
      have lBO := H4.out.a2.lt
      have lL := H4.out.a3.lt
      have lBL := H4.out.a4.lt
      rw [ht, hs]
      refine ⟨?_, ?_, ?_, ?_, ?_, ?_, ?_, ?_, ?_⟩ <;> first | omega | (simp; omega)
    have HC9 : Hid (Arr w9 C 3 n (nv (fun _ => 0))) := by rw [hs]; exact hA8.out.new N9.out
    have HB9 : Hid (Below w.heap.size w w9) := by
      have z4 := H4.out.size
      have n5 := N5.out.lt
      have n6 := N6.out.lt
      have n7 := N7.out.lt
      have n8 := hN8.out.lt
      exact ((((H4.out.below.trans (N5.out.below.mono (by omega))).trans (N6.out.below.mono (by omega))).trans (N7.out.below.mono (by omega))).trans (hN8.out.below.mono (by omega))).trans (N9.out.below.mono (by omega))
    have HLO : Hid (w.heap.size ≤ t.V ∧ w.heap.size ≤ t.BO ∧ w.heap.size ≤ t.O ∧ w.heap.size ≤ t.BL ∧ w.heap.size ≤ t.L ∧ w.heap.size ≤ t.BS ∧ w.heap.size ≤ t.BP ∧ w.heap.size ≤ t.Q ∧ w.heap.size ≤ C ∧ w.heap.size ≤ t.K) := by
      have z4 := H4.out.size
      have n5 := N5.out.lt
      have n6 := N6.out.lt
      have n7 := N7.out.lt
      have n8 := hN8.out.lt
      have n9 := N9.out.lt
      have ge := H4.out.ge
      rw [ht, hs]
      refine ⟨?_, ?_, ?_, ?_, ?_, ?_, ?_, ?_, ?_, ?_⟩ <;> first | omega | (simp; omega)
    have eV : w8.heap.size = t.V := by rw [ht]
    have eBO : BO = t.BO := by rw [ht]
    have eBL : BL = t.BL := by rw [ht]
    have eBS : w6.heap.size = t.BS := by rw [ht]
    have eBP : wc.heap.size + 1 = t.BP := by rw [ht, ← HS5.out]
    rw [eV, eBO, eBL, eBS, eBP, ← hs]
    clear eV eBO eBL eBS eBP ht hs s5 hK0 T6 T7 T9 hA5 hA8 N5 N6 N7 hN5 hN8 N9 H4 hmk HS5
    go_wp2_with fail
    go_loopg [8, 40] n (fun z c8 c40 wr => ∃ (r nc vis : Nat) (ord low cmp : Nat → Nat) (opn : Nat → Bool) (sf : Nat → Nat) (vs : Value), z = n - r ∧ r ≤ n ∧ nc ≤ n ∧ vis ≤ n ∧ c40 = .int .i64 r ∧ c8 = .int .i64 nc ∧ Hid (TAt wr t n vis ord low opn vs 0 sf) ∧ Hid (Arr wr C 3 n (nv cmp)) ∧ Hid (SI n D ord low cmp opn nc vis 0 sf 0 (fun _ _ => 0)) ∧ Hid (∀ u, u < r → ord u ≠ 0) ∧ Hid (Below w.heap.size w wr))
    case atStart => exact ⟨0, 0, 0, _, _, _, _, _, _, by omega, by omega, by omega, by omega, rfl, rfl, HT, HC9, SI.start n D _ _ _ _, fun u hu => by omega, HB9⟩
    case round =>
      obtain ⟨r, nc, vis, ord, low, cmp, opn, sf, vs, rfl, hr, hnc, hvis, rfl, rfl, hT, hC, hSI, hPast, hB⟩ := hrel
      by_cases hrn : r < n
      · have cBO := hT.out.hBO.cell (i := 0) (by omega)
        have cO := hT.out.hO.cell hrn
        rw [show nv ord r = .int .i64 ((ord r : Nat) : Int) from rfl] at cO
        by_cases h0 : ord r = 0
        · have e0 : (((ord r : Nat) : Int) == 0) = true := by rw [h0]; rfl
          have H0 : Hid (ord r = 0) := h0
          clear h0
          go_wp2_with (
            go_at_call 44
            refine (visit_any wr t n vis r 0 ord low opn vs sf hT.out hrn (by omega) (by omega)).mono ?_
            rintro e w10 ⟨rfl, vs', a1, a2, a3⟩
            have A1 : Hid (TAt w10 t n (vis + 1) (upd ord r (vis + 1)) (upd low r (vis + 1)) (upd opn r true) vs' (0 + 1) (upd sf 0 r)) := a1
            have A2 : Hid (Only (fun k => t.W k ∨ vs.ownBlock = some k) wr w10) := a2
            have A3 : Hid (Moved wr vs vs') := a3
            clear a1 a2 a3)
          obtain ⟨w11, hw11⟩ : ∃ w11 : World, w11 = w10.alloc (.cells #[.int .i64 (r : Nat), .int .i64 0] 98) := ⟨_, rfl⟩
          rw [← hw11]
          obtain ⟨g11, hg11⟩ : ∃ g11, g11 = w10.heap.size := ⟨_, rfl⟩
          have HP11 : Hid (Own2 w11 t.K (.slice (some ⟨g11, 0, none⟩) 1 1) 1 (fun _ j => if j = 0 then r else 0)) := by rw [hw11, hg11]; exact Own2.one _ _ _ A1.out.hK
          have HT11 : Hid (TAt w11 t n (vis + 1) (upd ord r (vis + 1)) (upd low r (vis + 1)) (upd opn r true) vs' (0 + 1) (upd sf 0 r)) := by rw [hw11]; exact A1.out.only (Only.alloc _ _ (fun _ => False)) (fun _ _ => id) (fun _ _ => id)
          have HAPw : Hid (∀ k, vs.ownBlock = some k → t.K ≤ k) := hT.out.apart
          have HO11 : Hid (Only (fun k => t.W k ∨ vs.ownBlock = some k) wr w11) := by rw [hw11]; exact A2.out.trans (Only.alloc _ _ _)
          have HC11 : Hid (Arr w11 C 3 n (nv cmp)) := hC.out.only HO11.out (by
            have d := HCD.out
            rintro (h | h)
            · unfold TB.W at h; omega
            · have := HAPw.out _ h; omega)
          have HB11 : Hid (Below w.heap.size w w11) := hB.out.trans (HO11.out.below hB.out.size (fun k hk => by
            have d := HLO.out
            rintro (h | h)
            · unfold TB.W at h; omega
            · have := HAPw.out _ h; omega))
          have HSI11 : Hid (SI n D (upd ord r (vis + 1)) (upd low r (vis + 1)) cmp (upd opn r true) nc (vis + 1) 1 (upd sf 0 r) 1 (fun _ j => if j = 0 then r else 0)) := hSI.out.root hrn H0.out ⟨rfl, rfl⟩
          have HAP11 : Hid (∀ k, vs'.ownBlock = some k → k ≠ g11) := fun k hk e => by
            have := (A1.out.hS.lt k hk).2
            omega
          have hv1 : vis + 1 ≤ n := hSI.out.room hrn H0.out
          have HPA : Hid (∀ u, u ≤ r → upd ord r (vis + 1) u ≠ 0) := fun u hu => by
            simp only [upd]
            by_cases e : u = r
            · rw [if_pos e]; omega
            · rw [if_neg e]; exact hPast.out u (by omega)
          rw [← hg11]
          clear hw11 hg11 A1 A2 A3
          go_loopg [8, 12] (uncost D (upd ord r (vis + 1)) n + pcost D (fun _ j => if j = 0 then r else 0) 1) (fun z c8 c12 wr => ∃ (nc vis sl m : Nat) (ord low cmp : Nat → Nat) (opn : Nat → Bool) (sf : Nat → Nat) (vs pv' : Value) (Q : Nat → Nat → Nat), z = uncost D ord n + pcost D Q m ∧ nc ≤ n ∧ vis ≤ n ∧ sl ≤ n ∧ m ≤ n ∧ c8 = .int .i64 nc ∧ c12 = pv' ∧ Hid (TAt wr t n vis ord low opn vs sl sf) ∧ Hid (Arr wr C 3 n (nv cmp)) ∧ Hid (Own2 wr t.K pv' m Q) ∧ Hid (∀ k, vs.ownBlock = some k → pv'.ownBlock ≠ some k) ∧ Hid (SI n D ord low cmp opn nc vis sl sf m Q) ∧ Hid (∀ u, u ≤ r → ord u ≠ 0) ∧ Hid (Below w.heap.size w wr))
          case atStart => exact ⟨nc, vis + 1, 1, 1, _, _, cmp, _, _, vs', _, _, rfl, hnc, hv1, by omega, by omega, rfl, rfl, HT11, HC11, HP11, fun k hk e => HAP11.out k hk (by cases e; rfl), HSI11, HPA, HB11⟩
          case round =>
            obtain ⟨nc, vis, sl, m, ord, low, cmp, opn, sf, vs, pv', Q, rfl, hnc, hvis, hsl, hmn, rfl, rfl, hT, hC, hP, hAp, hSI, hPa, hB⟩ := hrel
            cases m with
            | zero =>
              as_aux_lemma =>
                obtain ⟨ao', c', rfl⟩ := hP.out.shape
                have hsl0 : sl = 0 := by
                  have h1 := hSI.out.ti.empty
                  cases sl with
                  | zero => rfl
                  | succ sl => rw [stkL_succ] at h1; cases h1
                subst hsl0
                go_wp2_with fail
                go_roundg (n - (r + 1))
                case measure => omega
                case rel => exact ⟨r + 1, nc, vis, ord, low, cmp, opn, sf, vs, rfl, by omega, hnc, hvis, by go_num, rfl, hT, hC, ⟨hSI.out.ti, hSI.out.op, hSI.out.cnt, hSI.out.b1, hSI.out.b2⟩, fun u hu => hPa.out u (by omega), hB⟩
            | succ m =>
              obtain ⟨g, c, rfl, hmc⟩ := hP.out.some_
              have p0 := (hP.out.get (k := m * 2) (by omega)).1
              have p1 := (hP.out.get (k := m * 2 + 1) (by omega)).1
              have pf := (hP.out.get (k := m * 2 + 1) (by omega)).2
              rw [pv_even] at p0
              rw [pv_odd] at p1
              go_upto_region 16 with fail
              have HBr : Hid (Arr wr b 56 14 F) := HB.out.below hB.out HB.out.lt
              have c6 := HBr.out.cell (i := 6) (by omega)
              rw [h6] at c6
              obtain ⟨v, hv⟩ : ∃ v, v = Q m 0 := ⟨_, rfl⟩
              obtain ⟨k, hk⟩ : ∃ k, k = Q m 1 := ⟨_, rfl⟩
              rw [← hv] at p0 ⊢
              rw [← hk] at p1
              have HV : Hid (v = Q m 0) := hv
              have HK : Hid (k = Q m 1) := hk
              clear hv hk
              have hvn : v < n := by
                have h1 := hSI.out.ti.pstk (Q m 0, Q m 1) (by rw [pathL_succ]; simp)
                have h2 := hSI.out.ti.ovis _ h1
                have := (hSI.out.ti.olt _ h2).1
                rw [HV.out]; exact this
              have hkl : k ≤ (D v).length := by
                have := hSI.out.ti.pidx (Q m 0, Q m 1) (by rw [pathL_succ]; simp)
                rw [HV.out, HK.out]; exact this
              obtain ⟨val, FF, mm, hLd, hAd, hLs⟩ := HD.out.only (Only.belowAll hB.out (fun _ => False)) id id
              obtain ⟨ao, cc, o, e1, e2, e3, e4⟩ := hLs v hvn
              have cl := hLd.cell hvn
              rw [e1] at cl
              have hlen := HDL.out v
              obtain ⟨dl, hdl⟩ : ∃ dl, dl = (D v).length := ⟨_, rfl⟩
              rw [← hdl] at cl hkl hlen e2 e4
              have HDLv : Hid (dl = (D v).length) := hdl
              by_cases hkd : k < dl
              ·
                as_aux_lemma =>
                  obtain rfl : ao = some ⟨AD, o, none⟩ := e2.resolve_left (by omega)
                  obtain ⟨x, hx⟩ : ∃ x, x = (D v).getD k 0 := ⟨_, rfl⟩
                  have ca := hAd.cell (i := o + k) (by omega)
                  rw [show iv FF (o + k) = .int .i64 ((x : Nat) : Int) by simp only [iv]; rw [e3 k (by omega), hx]] at ca
                  have HX : Hid ((D v)[k]? = some x) := by
                    show _ = _
                    rw [hx, List.getD_eq_getElem?_getD, List.getElem?_eq_getElem (by omega)]; rfl
                  have hxn : x < n := HDN.out v x (List.mem_of_getElem? HX.out)
                  clear hx e1 e3 hLs hdl
                  go_upto_region 19 with (go_quiet (fail))
                  generalize hw20 : World.setCell _ _ _ = w20
                  have HO20 : Hid (Only (fun i => i = g) wr w20) := by rw [← hw20]; exact (Only.drewN wr _ _).trans ((Only.setCell _ _ _).weak (fun i h => h))
                  have HP20 : Hid (Own2 w20 t.K (.slice (some ⟨g, 0, none⟩) (m + 1) c) (m + 1) (upd2 Q m v (k + 1))) := by
                    rw [← hw20]
                    have key : ∀ q, Own2 ((wr.drewN q).setCell ⟨g, m * 2 + 1, none⟩ (.int .i64 ((k + 1 : Nat) : Int))) t.K (.slice (some ⟨g, 0, none⟩) (m + 1) c) (m + 1) (upd2 Q m v (k + 1)) := fun q => by
                      have h7 : Own2 (wr.drewN q) t.K (.slice (some ⟨g, 0, none⟩) (m + 1) c) (m + 1) Q := hP.out
                      have := h7.next (z := k + 1)
                      rw [← HV.out] at this
                      exact this
                    exact key _
                  clear hw20
                  have hgK : t.K ≤ g := (hP.out.lt g rfl).1
                  have HT20 : Hid (TAt w20 t n vis ord low opn vs sl sf) := hT.out.only HO20.out (fun k hk => by omega) (fun k hk e => hAp.out k hk (by rw [e]; rfl))
                  have HC20 : Hid (Arr w20 C 3 n (nv cmp)) := hC.out.only HO20.out (by have := HCD.out; omega)
                  have HB20 : Hid (Below w.heap.size w w20) := hB.out.trans (HO20.out.below hB.out.size (fun k hk => by have := HLO.out; omega))
                  have cBO := HT20.out.hBO.cell (i := 0) (by omega)
                  have cO := HT20.out.hO.cell hxn
                  rw [show nv ord x = .int .i64 ((ord x : Nat) : Int) from rfl] at cO
                  by_cases h0 : ord x = 0
                  · have e0 : (((ord x : Nat) : Int) == 0) = true := by rw [h0]; rfl
                    have H0 : Hid (ord x = 0) := h0
                    clear h0
                    go_wp2_with (first
                      | (
                        go_at_call 44
                        refine (visit_any w20 t n vis x sl ord low opn vs sf HT20.out hxn (by omega) (by omega)).mono ?_
                        rintro e w21 ⟨rfl, vs', a1, a2, a3⟩
                        have A1 : Hid (TAt w21 t n (vis + 1) (upd ord x (vis + 1)) (upd low x (vis + 1)) (upd opn x true) vs' (sl + 1) (upd sf sl x)) := a1
                        have A2 : Hid (Only (fun k => t.W k ∨ vs.ownBlock = some k) w20 w21) := a2
                        have A3 : Hid (Moved w20 vs vs') := a3
                        have HP21 : Hid (Own2 w21 t.K (.slice (some ⟨g, 0, none⟩) (m + 1) c) (m + 1) (upd2 Q m v (k + 1))) := HP20.out.only a2 (fun kk hkk => by
                          have hkg : kk = g := by cases hkk; rfl
                          subst hkg
                          have d := HT20.out.ok
                          rintro (h | h)
                          · unfold TB.W at h
                            have := d.kV; have := d.kO; have := d.kL; have := d.kBS; have := d.kQ
                            omega
                          · exact hAp.out _ h rfl)
                        clear a1 a2 a3)
                      | (
                        refine app_two _ rfl _ _ 99 rfl t.K Try.underlying99 Try.info98 _ (m + 1) _ rfl (HP21.out.only (Only.alloc _ _ (fun _ => False)) (fun _ _ => id)) _ 1 x 0 rfl (Arr.two _ _ _ _).1 (Arr.two _ _ _ _).2 (by omega) (by have := A1.out.hK; simp; omega) ?_
                        intro v' w22 hO22 hG22 hM22))
                    have hsl1 : vis + 1 ≤ n := hSI.out.room hxn H0.out
                    have hkv : Q m 1 < (D (Q m 0)).length := by rw [← HV.out, ← HK.out, ← HDLv.out]; exact hkd
                    have r0 : ∀ i, i < m → upd2 (upd2 Q m v (k + 1)) (m + 1) x 0 i 0 = Q i 0 ∧ upd2 (upd2 Q m v (k + 1)) (m + 1) x 0 i 1 = Q i 1 := fun i hi => by simp [upd2, show i ≠ m by omega, show i ≠ m + 1 by omega]
                    have r1 : upd2 (upd2 Q m v (k + 1)) (m + 1) x 0 m 0 = Q m 0 ∧ upd2 (upd2 Q m v (k + 1)) (m + 1) x 0 m 1 = Q m 1 + 1 := by
                      rw [← HV.out, ← HK.out]; simp [upd2]
                    have r2 : upd2 (upd2 Q m v (k + 1)) (m + 1) x 0 (m + 1) 0 = x ∧ upd2 (upd2 Q m v (k + 1)) (m + 1) x 0 (m + 1) 1 = 0 := by simp [upd2]
                    have HSI22 : Hid (SI n D (upd ord x (vis + 1)) (upd low x (vis + 1)) cmp (upd opn x true) nc (vis + 1) (sl + 1) (upd sf sl x) (m + 2) (upd2 (upd2 Q m v (k + 1)) (m + 1) x 0)) := hSI.out.child (by rw [← HV.out, ← HK.out]; exact HX.out) hxn H0.out r0 r1 r2
                    have HO22 : Hid (Only (fun kk => (t.W kk ∨ vs.ownBlock = some kk) ∨ kk = g) w20 w22) := (A2.out.weak (fun i h => Or.inl h)).trans ((Only.alloc w21 _ _).trans' (Only.grown hG22.out) (fun i _ h => Or.inr (by cases h; rfl)))
                    have HOt : Hid (Only (fun kk => kk = g) w21 w22) := (Only.alloc w21 _ _).trans' (Only.grown hG22.out) (fun i _ h => by cases h; rfl)
                    have hgv : Hid (∀ kk, vs'.ownBlock = some kk → kk ≠ g) := fun kk hkk e => by
                      subst e
                      rcases A3.out with h | h
                      · exact hAp.out kk (by rw [← h]; exact hkk) rfl
                      · have := h kk hkk
                        have := (HP20.out.lt kk rfl).2
                        omega
                    go_roundg (uncost D (upd ord x (vis + 1)) n + pcost D (upd2 (upd2 Q m v (k + 1)) (m + 1) x 0) (m + 2))
                    case measure => exact child_cost (by omega) H0.out hxn hkv r0 r1 r2
                    case rel =>
                      refine ⟨nc, vis + 1, sl + 1, m + 2, _, _, cmp, _, _, vs', _, _, rfl, hnc, hsl1, ?_, ?_, rfl, rfl, ?_, ?_, hO22, ?_, HSI22, ?_, ?_⟩
                      · have := HSI22.out.b1; omega
                      · have := HSI22.out.b2; omega
                      · exact A1.out.only HOt.out (fun kk hk => by omega) (fun kk hk => hgv.out kk hk)
                      · refine HC20.out.only HO22.out ?_
                        have d := HCD.out
                        rintro ((h | h) | h)
                        · unfold TB.W at h; omega
                        · have := HT20.out.apart _ h; omega
                        · omega
                      · intro kk hkk e
                        rcases hM22.out with h | h
                        · rw [h] at e
                          exact hgv.out kk hkk (by cases e; rfl)
                        · have h1 := h kk e
                          have h2 := (A1.out.hS.lt kk hkk).2
                          simp at h1
                          omega
                      · intro u hu
                        simp only [upd]
                        split
                        · omega
                        · exact hPa.out u hu
                      · refine HB20.out.trans (HO22.out.below HB20.out.size (fun kk hk => ?_))
                        have d := HLO.out
                        rintro ((h | h) | h)
                        · unfold TB.W at h; omega
                        · have := HT20.out.apart _ h; omega
                        · omega
                  · have e0 : (((ord x : Nat) : Int) == 0) = false := by rw [beq_eq_false_iff_ne]; omega
                    have H0 : Hid (ord x ≠ 0) := h0
                    clear h0
                    have hkv : Q m 1 < (D (Q m 0)).length := by rw [← HV.out, ← HK.out, ← HDLv.out]; exact hkd
                    have r0 : ∀ i, i < m → upd2 Q m v (k + 1) i 0 = Q i 0 ∧ upd2 Q m v (k + 1) i 1 = Q i 1 := fun i hi => by simp [upd2, show i ≠ m by omega]
                    have r1 : upd2 Q m v (k + 1) m 0 = Q m 0 ∧ upd2 Q m v (k + 1) m 1 = Q m 1 + 1 := by
                      rw [← HV.out, ← HK.out]; simp [upd2]
                    have hDx : (D (Q m 0))[Q m 1]? = some x := by rw [← HV.out, ← HK.out]; exact HX.out
                    have HR0 : Hid (∀ i, i < m → upd2 Q m v (k + 1) i 0 = Q i 0 ∧ upd2 Q m v (k + 1) i 1 = Q i 1) := r0
                    have HR1 : Hid (upd2 Q m v (k + 1) m 0 = Q m 0 ∧ upd2 Q m v (k + 1) m 1 = Q m 1 + 1) := r1
                    have HDX : Hid ((D (Q m 0))[Q m 1]? = some x) := hDx
                    have HKV : Hid (Q m 1 < (D (Q m 0)).length) := hkv
                    clear r0 r1 hDx hkv
                    have cBP := HT20.out.hBP.cell (i := 0) (by omega)
                    have cQ := HT20.out.hQ.cell hxn
                    rw [show bv opn x = .bool (opn x) from rfl] at cQ
                    cases hox : opn x with
                    | false =>
                      rw [hox] at cQ
                      have HOX : Hid (opn x = false) := hox
                      clear hox
                      go_wp2_with fail
                      go_roundg (uncost D ord n + pcost D (upd2 Q m v (k + 1)) (m + 1))
                      case measure => exact edge_cost HKV.out HR0.out HR1.out
                      case rel => exact ⟨nc, vis, sl, m + 1, ord, low, cmp, opn, sf, vs, _, _, rfl, hnc, hvis, hsl, hmn, rfl, rfl, HT20, HC20, HP20, hAp, hSI.out.edge HDX.out hxn H0.out HR0.out HR1.out (by rw [HOX.out]; rfl), hPa, HB20⟩
                    | true =>
                      rw [hox] at cQ
                      have HOX : Hid (opn x = true) := hox
                      clear hox
                      have cBL := HT20.out.hBL.cell (i := 0) (by omega)
                      have cL := HT20.out.hL.cell hvn
                      have fL := HT20.out.hL.free v
                      rw [show nv low v = .int .i64 ((low v : Nat) : Int) from rfl] at cL
                      have hlv : low v ≤ n := by
                        have h1 := hSI.out.ti.pstk (Q m 0, Q m 1) (by rw [pathL_succ]; simp)
                        have h2 := (hSI.out.ti.i3 _ h1).1
                        have h3 := (hSI.out.ti.olt _ (hSI.out.ti.ovis _ h1)).2
                        rw [HV.out]; simp only at h2 h3; omega
                      have hox' : ord x ≤ n := by have := (hSI.out.ti.olt x H0.out).2; omega
                      go_wp2_with fail
                      go_region
                      all_goals (go_wp2_with fail)
                      all_goals (go_roundg (uncost D ord n + pcost D (upd2 Q m v (k + 1)) (m + 1)))
                      case measure => exact edge_cost HKV.out HR0.out HR1.out
                      case rel =>
                        have em : min ((low v : Nat) : Int) ((ord x : Nat) : Int) = ((min (low v) (ord x) : Nat) : Int) := by omega
                        have HO21 : Hid (Only (fun kk => kk = t.L) w20 ((w20.setCell ⟨t.L, v, none⟩ (.int .i64 (min ((low v : Nat) : Int) ((ord x : Nat) : Int)))).drewN 1)) := (Only.put1 (fun kk => kk = t.L) w20 t.L v _ rfl).trans (Only.drewN _ 1 _)
                        refine ⟨nc, vis, sl, m + 1, ord, upd low v (min (low v) (ord x)), cmp, opn, sf, vs, _, _, rfl, hnc, hvis, hsl, hmn, rfl, rfl, ?_, ?_, ?_, hAp, hSI.out.edge HDX.out hxn H0.out HR0.out HR1.out (by rw [if_pos HOX.out, ← HV.out]), hPa, ?_⟩
                        · have := (HT20.out.setL v (min (low v) (ord x))).drew 1
                          rw [← em] at this
                          exact this
                        · exact HC20.out.only HO21.out (by have := HCD.out; omega)
                        · exact HP20.out.only HO21.out (fun kk hk e => by cases hk; have h5 := HT20.out.ok.kL; have h6 : g = t.L := e; omega)
                        · exact HB20.out.trans (HO21.out.below HB20.out.size (fun kk hk e => by have := HLO.out; omega))
              ·
                as_aux_lemma =>
                  obtain rfl : dl = k := by omega
                  have HKL : Hid (Q m 1 = (D (Q m 0)).length) := by show _ = _; rw [← HV.out, ← HK.out, ← HDLv.out]
                  clear hdl e1 e2 e3 e4 hLs hLd hAd hkd
                  have HPs : Hid (Own2 wr t.K (.slice (some ⟨g, 0, none⟩) m c) m Q) := hP.out.shorter
                  have hgK : t.K ≤ g := (hP.out.lt g rfl).1
                  have hlv : low v ≤ n := by
                    have h1 := hSI.out.ti.pstk (Q m 0, Q m 1) (by rw [pathL_succ]; simp)
                    have h2 := (hSI.out.ti.i3 _ h1).1
                    have h3 := (hSI.out.ti.olt _ (hSI.out.ti.ovis _ h1)).2
                    rw [HV.out]; simp only at h2 h3; omega
                  have cBL := hT.out.hBL.cell (i := 0) (by omega)
                  have cBO := hT.out.hBO.cell (i := 0) (by omega)
                  have cL := hT.out.hL.cell hvn
                  have cO := hT.out.hO.cell hvn
                  rw [show nv low v = .int .i64 ((low v : Nat) : Int) from rfl] at cL
                  rw [show nv ord v = .int .i64 ((ord v : Nat) : Int) from rfl] at cO
                  cases m with
                  | zero =>
                    have hlo : low v = ord v := by
                      apply Classical.byContradiction
                      intro hne
                      have := (hSI.out.finish HKL.out (by rw [← HV.out]; exact hne)).1
                      omega
                    have e0 : (((low v : Nat) : Int) != ((ord v : Nat) : Int)) = false := by rw [hlo]; simp
                    have HLE : Hid (low v = ord v) := hlo
                    clear hlo
                    go_upto_region 29 with (go_quiet (fail))
                    generalize hw21 : World.drewN _ _ = w21
                    have HO21 : Hid (Only (fun _ => False) wr w21) := by rw [← hw21]; exact (Only.drewN wr _ _).trans (Only.drewN _ _ _)
                    clear hw21
                    have HT21 : Hid (TAt w21 t n vis ord low opn vs sl sf) := hT.out.only HO21.out (fun _ _ => id) (fun _ _ => id)
                    have HC21 : Hid (Arr w21 C 3 n (nv cmp)) := hC.out.only HO21.out id
                    have HP21 : Hid (Own2 w21 t.K (.slice (some ⟨g, 0, none⟩) 0 c) 0 Q) := HPs.out.only HO21.out (fun _ _ => id)
                    have HB21 : Hid (Below w.heap.size w w21) := hB.out.trans (HO21.out.below hB.out.size (fun _ _ => id))
                    have HVS : Hid (∃ i, i < sl ∧ sf i = v) := by
                      have h1 := hSI.out.ti.pstk (Q 0 0, Q 0 1) (by rw [pathL_succ]; simp)
                      rw [HV.out]
                      exact mem_stkL.1 h1
                    have HSN : Hid (∀ i, i < sl → sf i < n) := fun i hi => (hSI.out.ti.olt _ (hSI.out.ti.ovis _ (mem_stkL.2 ⟨i, hi, rfl⟩))).1
                    have hncl : nc + sl ≤ n := by have := hSI.out.b1; omega
                    go_loopg [17] sl (fun z _ wr => ∃ (s1 : Nat) (opn1 : Nat → Bool) (cmp1 : Nat → Nat) (vs1 : Value), z = s1 ∧ s1 ≤ sl ∧ Hid (∃ i, i < s1 ∧ sf i = v) ∧ Hid (TAt wr t n vis ord low opn1 vs1 s1 sf) ∧ Hid (Arr wr C 3 n (nv cmp1)) ∧ Hid (Popped sl s1 sf v nc opn opn1 cmp cmp1) ∧ Hid (vs1.ownBlock = vs.ownBlock) ∧ Hid (Own2 wr t.K (.slice (some ⟨g, 0, none⟩) 0 c) 0 Q) ∧ Hid (Below w.heap.size w wr))
                    case atStart => exact ⟨sl, opn, cmp, vs, rfl, Nat.le_refl _, HVS, HT21, HC21, Popped.start sl sf v nc opn cmp, rfl, HP21, HB21⟩
                    case round =>
                      obtain ⟨s1, opn1, cmp1, vs1, rfl, hs1, hEx, hT1, hC1, hPop, hVS1, hP1, hB1⟩ := hrel
                      obtain ⟨s2, rfl⟩ : ∃ s2, gk = s2 + 1 := by
                        obtain ⟨i, hi, _⟩ := hEx.out
                        exact ⟨gk - 1, by omega⟩
                      obtain ⟨gs, cs, rfl⟩ := hT1.out.hS.some_
                      have hs2c : s2 + 1 ≤ cs := by
                        rcases hT1.out.hS.2 with ⟨h, _⟩ | ⟨g', cap, cur, hv, _, _, hnc', _⟩
                        · cases h
                        · simp only [Value.slice.injEq] at hv
                          omega
                      have cS := hT1.out.hBS.cell (i := 0) (by omega)
                      have fS := hT1.out.hBS.free 0
                      have cT := hT1.out.hS.row.cell (i := s2) (by omega)
                      rw [show nv sf s2 = .int .i64 ((sf s2 : Nat) : Int) from rfl] at cT
                      have hxn : sf s2 < n := HSN.out s2 (by omega)
                      obtain ⟨x, hx⟩ : ∃ x, x = sf s2 := ⟨_, rfl⟩
                      rw [← hx] at cT hxn
                      have HX : Hid (x = sf s2) := hx
                      clear hx
                      have hT2 : Hid (TAt ((wr.setCell ⟨t.BS, 0, none⟩ (.slice (some ⟨gs, 0, none⟩) s2 cs)).setCell ⟨t.Q, x, none⟩ (.bool false)) t n vis ord low (upd opn1 x false) (.slice (some ⟨gs, 0, none⟩) s2 cs) s2 sf) := hT1.out.popd x
                      have hTS : Hid (TAt (wr.setCell ⟨t.BS, 0, none⟩ (.slice (some ⟨gs, 0, none⟩) s2 cs)) t n vis ord low opn1 (.slice (some ⟨gs, 0, none⟩) s2 cs) s2 sf) := TAt.setS hT1.out (Only.refl _ _) hT1.out.hS.shorter
                      have cBP := hTS.out.hBP.cell (i := 0) (by omega)
                      have fQ := hTS.out.hQ.free x
                      have cQ := hTS.out.hQ.cell hxn
                      have hC2 : Hid (Arr ((wr.setCell ⟨t.BS, 0, none⟩ (.slice (some ⟨gs, 0, none⟩) s2 cs)).setCell ⟨t.Q, x, none⟩ (.bool false)) C 3 n (nv cmp1)) := by
                        have d := HCD.out
                        exact (hC1.out.other (by simp only; omega) _).other (by simp only; omega) _
                      have cC := hC2.out.cell hxn
                      have fC := hC2.out.free x
                      have HON : Hid (∀ u, Only (fun kk => kk = t.BS ∨ kk = t.Q ∨ kk = C) wr (((wr.setCell ⟨t.BS, 0, none⟩ (.slice (some ⟨gs, 0, none⟩) s2 cs)).setCell ⟨t.Q, x, none⟩ (.bool false)).setCell ⟨C, x, none⟩ u)) := fun u =>
                        ((Only.put1 (fun kk => kk = t.BS ∨ kk = t.Q ∨ kk = C) wr t.BS 0 _ (Or.inl rfl)).trans (Only.put1 _ _ t.Q x _ (Or.inr (Or.inl rfl)))).trans (Only.put1 _ _ C x _ (Or.inr (Or.inr rfl)))
                      have hT3 : Hid (TAt (((wr.setCell ⟨t.BS, 0, none⟩ (.slice (some ⟨gs, 0, none⟩) s2 cs)).setCell ⟨t.Q, x, none⟩ (.bool false)).setCell ⟨C, x, none⟩ (.int .i64 (nc : Nat))) t n vis ord low (upd opn1 x false) (.slice (some ⟨gs, 0, none⟩) s2 cs) s2 sf) := hT2.out.setC HCD.out x _
                      have hC3 : Hid (Arr (((wr.setCell ⟨t.BS, 0, none⟩ (.slice (some ⟨gs, 0, none⟩) s2 cs)).setCell ⟨t.Q, x, none⟩ (.bool false)).setCell ⟨C, x, none⟩ (.int .i64 (nc : Nat))) C 3 n (nv (upd cmp1 x nc))) := by
                        have := hC2.out.set x (.int .i64 (nc : Nat))
                        rw [upd_nv] at this
                        exact this
                      have hPop2 : Hid (Popped sl s2 sf v nc opn (upd opn1 x false) cmp (upd cmp1 x nc)) := by
                        rw [HX.out]; exact hPop.out.step
                      have hP3 : Hid (Own2 (((wr.setCell ⟨t.BS, 0, none⟩ (.slice (some ⟨gs, 0, none⟩) s2 cs)).setCell ⟨t.Q, x, none⟩ (.bool false)).setCell ⟨C, x, none⟩ (.int .i64 (nc : Nat))) t.K (.slice (some ⟨g, 0, none⟩) 0 c) 0 Q) := hP1.out.only (HON.out _) (fun kk hk h => by
                        have hkg : kk = g := by cases hk; rfl
                        rw [hkg] at h
                        have d := HCD.out
                        have := hT1.out.ok.kBS
                        have := hT1.out.ok.kQ
                        omega)
                      have hB3 : Hid (Below w.heap.size w (((wr.setCell ⟨t.BS, 0, none⟩ (.slice (some ⟨gs, 0, none⟩) s2 cs)).setCell ⟨t.Q, x, none⟩ (.bool false)).setCell ⟨C, x, none⟩ (.int .i64 (nc : Nat)))) := hB1.out.trans ((HON.out _).below hB1.out.size (fun kk hk h => by have := HLO.out; omega))
                      by_cases hxv : x = v
                      · have e1 : (((x : Nat) : Int) == ((v : Nat) : Int)) = true := by rw [hxv]; simp
                        have HXV : Hid (x = v) := hxv
                        clear hxv
                        have hc1 := hSI.out.close HKL.out (by rw [← HV.out]; exact HLE.out) (sl2 := s2) (by omega) (by rw [← HX.out, ← HV.out]; exact HXV.out) (by rw [← HV.out]; exact hPop2.out)
                        have HC1 : Hid (SI n D ord low (upd cmp1 x nc) (upd opn1 x false) (nc + 1) vis s2 sf 0 Q) := hc1.1
                        clear hc1
                        go_wp2_with fail
                        go_roundg (uncost D ord n + pcost D Q 0)
                        case measure => exact pop_cost
                        case rel =>
                          refine ⟨nc + 1, vis, s2, 0, ord, low, _, _, sf, _, _, Q, rfl, by omega, hvis, by omega, by omega, by go_num, rfl, hT3, hC3, hP3, ?_, ?_, hPa, hB3⟩
                          · intro kk hkk
                            exact hAp.out kk (by rw [← hVS1.out]; exact hkk)
                          · exact HC1
                      · have e1 : (((x : Nat) : Int) == ((v : Nat) : Int)) = false := by rw [beq_eq_false_iff_ne]; omega
                        have HXV : Hid (x ≠ v) := hxv
                        clear hxv
                        go_wp2_with fail
                        go_roundg s2
                        case measure => omega
                        case rel =>
                          refine ⟨s2, _, _, _, rfl, by omega, ?_, hT3, hC3, hPop2, hVS1, hP3, hB3⟩
                          obtain ⟨i, hi, e⟩ := hEx.out
                          refine ⟨i, ?_, e⟩
                          by_cases ei : i = s2
                          · rw [ei, ← HX.out] at e; exact absurd e HXV.out
                          · omega
                  | succ m =>
                    have p2 := (HPs.out.get (k := m * 2) (by omega)).1
                    rw [pv_even] at p2
                    obtain ⟨p, hp⟩ : ∃ p, p = Q m 0 := ⟨_, rfl⟩
                    rw [← hp] at p2
                    have HPP : Hid (p = Q m 0) := hp
                    clear hp
                    have hpm : (Q m 0, Q m 1) ∈ pathL (m + 1 + 1) Q := by rw [pathL_succ, pathL_succ]; simp
                    have hpn : p < n := by
                      have h1 := hSI.out.ti.pstk _ hpm
                      have h2 := hSI.out.ti.ovis _ h1
                      have := (hSI.out.ti.olt _ h2).1
                      rw [HPP.out]; exact this
                    have hlp : low p ≤ n := by
                      have h1 := hSI.out.ti.pstk _ hpm
                      have h2 := (hSI.out.ti.i3 _ h1).1
                      have h3 := (hSI.out.ti.olt _ (hSI.out.ti.ovis _ h1)).2
                      rw [HPP.out]; simp only at h2 h3; omega
                    clear hpm
                    have cLp := hT.out.hL.cell hpn
                    rw [show nv low p = .int .i64 ((low p : Nat) : Int) from rfl] at cLp
                    have fLp := hT.out.hL.free p
                    go_upto_region 27 with (go_quiet (fail))
                    generalize hwd : World.drewN _ _ = wd
                    have HOd : Hid (Only (fun _ => False) wr wd) := by rw [← hwd]; exact Only.drewN wr _ _
                    clear hwd
                    have HTd : Hid (TAt wd t n vis ord low opn vs sl sf) := hT.out.only HOd.out (fun _ _ => id) (fun _ _ => id)
                    have cBLd := HTd.out.hBL.cell (i := 0) (by omega)
                    have cLd := HTd.out.hL.cell hvn
                    rw [show nv low v = .int .i64 ((low v : Nat) : Int) from rfl] at cLd
                    have cLpd := HTd.out.hL.cell hpn
                    rw [show nv low p = .int .i64 ((low p : Nat) : Int) from rfl] at cLpd
                    have fLpd := HTd.out.hL.free p
                    go_region
                    generalize hw21 : World.drew _ = w21
                    obtain ⟨lw, hlw⟩ : ∃ lw, lw = upd low p (min (low p) (low v)) := ⟨_, rfl⟩
                    have em : min ((low p : Nat) : Int) ((low v : Nat) : Int) = ((min (low p) (low v) : Nat) : Int) := by omega
                    have HT21' : Hid (TAt w21 t n vis ord lw opn vs sl sf) := by
                      have := (HTd.out.setL p (min (low p) (low v))).drew 1
                      rw [← em] at this
                      rw [hlw, ← hw21]
                      exact this
                    have HO21 : Hid (Only (fun kk => kk = t.L) wr w21) := by
                      rw [← hw21]
                      exact ((HOd.out.weak (fun _ h => h.elim)).trans (Only.put1 (fun kk => kk = t.L) wd t.L p _ rfl)).trans (Only.drewN _ 1 _)
                    have hLv : lw v = low v := by
                      rw [hlw]
                      simp only [upd]
                      by_cases e : v = p
                      · rw [if_pos e, e]; omega
                      · rw [if_neg e]
                    have HLW0 : Hid (lw = upd low p (min (low p) (low v))) := hlw
                    clear hw21 hlw em
                    have cBL21 := HT21'.out.hBL.cell (i := 0) (by omega)
                    have cBO21 := HT21'.out.hBO.cell (i := 0) (by omega)
                    have cL21 := HT21'.out.hL.cell hvn
                    have cO21 := HT21'.out.hO.cell hvn
                    rw [show nv lw v = .int .i64 ((lw v : Nat) : Int) from rfl, hLv] at cL21
                    rw [show nv ord v = .int .i64 ((ord v : Nat) : Int) from rfl] at cO21
                    have HLV : Hid (lw v = low v) := hLv
                    clear hLv
                    by_cases hlo : low v = ord v
                    · have e0 : (((low v : Nat) : Int) != ((ord v : Nat) : Int)) = false := by rw [hlo]; simp
                      have HLE : Hid (low v = ord v) := hlo
                      clear hlo
                      go_upto_region 29 with (go_quiet (fail))
                      generalize hw22 : World.drewN _ _ = w22
                      have HO22 : Hid (Only (fun _ => False) w21 w22) := by rw [← hw22]; exact Only.drewN w21 _ _
                      clear hw22
                      have HT21 : Hid (TAt w22 t n vis ord lw opn vs sl sf) := HT21'.out.only HO22.out (fun _ _ => id) (fun _ _ => id)
                      have HO2 : Hid (Only (fun kk => kk = t.L) wr w22) := HO21.out.trans (HO22.out.weak (fun _ h => h.elim))
                      have HC21 : Hid (Arr w22 C 3 n (nv cmp)) := hC.out.only HO2.out (by have := HCD.out; omega)
                      have HP21 : Hid (Own2 w22 t.K (.slice (some ⟨g, 0, none⟩) (m + 1) c) (m + 1) Q) := HPs.out.only HO2.out (fun kk hk e => by
                        have hkg : kk = g := by cases hk; rfl
                        rw [hkg] at e
                        have h5 := hT.out.ok.kL
                        omega)
                      have HB21 : Hid (Below w.heap.size w w22) := hB.out.trans (HO2.out.below hB.out.size (fun kk hk e => by have := HLO.out; omega))
                      have HLW : Hid ((0 < m + 1 → min (low (Q (m + 1 - 1) 0)) (low (Q (m + 1) 0)) = low (Q (m + 1 - 1) 0)) → lw = low) := fun h => by
                        have h1 := h (by omega)
                        rw [Nat.add_sub_cancel, ← HPP.out, ← HV.out] at h1
                        rw [HLW0.out, h1]
                        funext u
                        simp only [upd]
                        by_cases e : u = p
                        · rw [if_pos e, e]
                        · rw [if_neg e]
                      have HVS : Hid (∃ i, i < sl ∧ sf i = v) := by
                        have h1 := hSI.out.ti.pstk (Q (m + 1) 0, Q (m + 1) 1) (by rw [pathL_succ]; simp)
                        rw [HV.out]
                        exact mem_stkL.1 h1
                      have HSN : Hid (∀ i, i < sl → sf i < n) := fun i hi => (hSI.out.ti.olt _ (hSI.out.ti.ovis _ (mem_stkL.2 ⟨i, hi, rfl⟩))).1
                      have hncl : nc + sl ≤ n := by have := hSI.out.b1; omega
                      go_loopg [17] sl (fun z _ wr => ∃ (s1 : Nat) (opn1 : Nat → Bool) (cmp1 : Nat → Nat) (vs1 : Value), z = s1 ∧ s1 ≤ sl ∧ Hid (∃ i, i < s1 ∧ sf i = v) ∧ Hid (TAt wr t n vis ord lw opn1 vs1 s1 sf) ∧ Hid (Arr wr C 3 n (nv cmp1)) ∧ Hid (Popped sl s1 sf v nc opn opn1 cmp cmp1) ∧ Hid (vs1.ownBlock = vs.ownBlock) ∧ Hid (Own2 wr t.K (.slice (some ⟨g, 0, none⟩) (m + 1) c) (m + 1) Q) ∧ Hid (Below w.heap.size w wr))
                      case atStart => exact ⟨sl, opn, cmp, vs, rfl, Nat.le_refl _, HVS, HT21, HC21, Popped.start sl sf v nc opn cmp, rfl, HP21, HB21⟩
                      case round =>
                        obtain ⟨s1, opn1, cmp1, vs1, rfl, hs1, hEx, hT1, hC1, hPop, hVS1, hP1, hB1⟩ := hrel
                        obtain ⟨s2, rfl⟩ : ∃ s2, gk = s2 + 1 := by
                          obtain ⟨i, hi, _⟩ := hEx.out
                          exact ⟨gk - 1, by omega⟩
                        obtain ⟨gs, cs, rfl⟩ := hT1.out.hS.some_
                        have hs2c : s2 + 1 ≤ cs := by
                          rcases hT1.out.hS.2 with ⟨h, _⟩ | ⟨g', cap, cur, hv, _, _, hnc', _⟩
                          · cases h
                          · simp only [Value.slice.injEq] at hv
                            omega
                        have cS := hT1.out.hBS.cell (i := 0) (by omega)
                        have fS := hT1.out.hBS.free 0
                        have cT := hT1.out.hS.row.cell (i := s2) (by omega)
                        rw [show nv sf s2 = .int .i64 ((sf s2 : Nat) : Int) from rfl] at cT
                        have hxn : sf s2 < n := HSN.out s2 (by omega)
                        obtain ⟨x, hx⟩ : ∃ x, x = sf s2 := ⟨_, rfl⟩
                        rw [← hx] at cT hxn
                        have HX : Hid (x = sf s2) := hx
                        clear hx
                        have hT2 : Hid (TAt ((wr.setCell ⟨t.BS, 0, none⟩ (.slice (some ⟨gs, 0, none⟩) s2 cs)).setCell ⟨t.Q, x, none⟩ (.bool false)) t n vis ord lw (upd opn1 x false) (.slice (some ⟨gs, 0, none⟩) s2 cs) s2 sf) := hT1.out.popd x
                        have hTS : Hid (TAt (wr.setCell ⟨t.BS, 0, none⟩ (.slice (some ⟨gs, 0, none⟩) s2 cs)) t n vis ord lw opn1 (.slice (some ⟨gs, 0, none⟩) s2 cs) s2 sf) := TAt.setS hT1.out (Only.refl _ _) hT1.out.hS.shorter
                        have cBP := hTS.out.hBP.cell (i := 0) (by omega)
                        have fQ := hTS.out.hQ.free x
                        have cQ := hTS.out.hQ.cell hxn
                        have hC2 : Hid (Arr ((wr.setCell ⟨t.BS, 0, none⟩ (.slice (some ⟨gs, 0, none⟩) s2 cs)).setCell ⟨t.Q, x, none⟩ (.bool false)) C 3 n (nv cmp1)) := by
                          have d := HCD.out
                          exact (hC1.out.other (by simp only; omega) _).other (by simp only; omega) _
                        have cC := hC2.out.cell hxn
                        have fC := hC2.out.free x
                        have HON : Hid (∀ u, Only (fun kk => kk = t.BS ∨ kk = t.Q ∨ kk = C) wr (((wr.setCell ⟨t.BS, 0, none⟩ (.slice (some ⟨gs, 0, none⟩) s2 cs)).setCell ⟨t.Q, x, none⟩ (.bool false)).setCell ⟨C, x, none⟩ u)) := fun u =>
                          ((Only.put1 (fun kk => kk = t.BS ∨ kk = t.Q ∨ kk = C) wr t.BS 0 _ (Or.inl rfl)).trans (Only.put1 _ _ t.Q x _ (Or.inr (Or.inl rfl)))).trans (Only.put1 _ _ C x _ (Or.inr (Or.inr rfl)))
                        have hT3 : Hid (TAt (((wr.setCell ⟨t.BS, 0, none⟩ (.slice (some ⟨gs, 0, none⟩) s2 cs)).setCell ⟨t.Q, x, none⟩ (.bool false)).setCell ⟨C, x, none⟩ (.int .i64 (nc : Nat))) t n vis ord lw (upd opn1 x false) (.slice (some ⟨gs, 0, none⟩) s2 cs) s2 sf) := hT2.out.setC HCD.out x _
                        have hC3 : Hid (Arr (((wr.setCell ⟨t.BS, 0, none⟩ (.slice (some ⟨gs, 0, none⟩) s2 cs)).setCell ⟨t.Q, x, none⟩ (.bool false)).setCell ⟨C, x, none⟩ (.int .i64 (nc : Nat))) C 3 n (nv (upd cmp1 x nc))) := by
                          have := hC2.out.set x (.int .i64 (nc : Nat))
                          rw [upd_nv] at this
                          exact this
                        have hPop2 : Hid (Popped sl s2 sf v nc opn (upd opn1 x false) cmp (upd cmp1 x nc)) := by
                          rw [HX.out]; exact hPop.out.step
                        have hP3 : Hid (Own2 (((wr.setCell ⟨t.BS, 0, none⟩ (.slice (some ⟨gs, 0, none⟩) s2 cs)).setCell ⟨t.Q, x, none⟩ (.bool false)).setCell ⟨C, x, none⟩ (.int .i64 (nc : Nat))) t.K (.slice (some ⟨g, 0, none⟩) (m + 1) c) (m + 1) Q) := hP1.out.only (HON.out _) (fun kk hk h => by
                          have hkg : kk = g := by cases hk; rfl
                          rw [hkg] at h
                          have d := HCD.out
                          have := hT1.out.ok.kBS
                          have := hT1.out.ok.kQ
                          omega)
                        have hB3 : Hid (Below w.heap.size w (((wr.setCell ⟨t.BS, 0, none⟩ (.slice (some ⟨gs, 0, none⟩) s2 cs)).setCell ⟨t.Q, x, none⟩ (.bool false)).setCell ⟨C, x, none⟩ (.int .i64 (nc : Nat)))) := hB1.out.trans ((HON.out _).below hB1.out.size (fun kk hk h => by have := HLO.out; omega))
                        by_cases hxv : x = v
                        · have e1 : (((x : Nat) : Int) == ((v : Nat) : Int)) = true := by rw [hxv]; simp
                          have HXV : Hid (x = v) := hxv
                          clear hxv
                          have hc1 := hSI.out.close HKL.out (by rw [← HV.out]; exact HLE.out) (sl2 := s2) (by omega) (by rw [← HX.out, ← HV.out]; exact HXV.out) (by rw [← HV.out]; exact hPop2.out)
                          have HC1 : Hid (SI n D ord low (upd cmp1 x nc) (upd opn1 x false) (nc + 1) vis s2 sf (m + 1) Q) := hc1.1
                          have HLL : Hid (lw = low) := HLW.out hc1.2
                          clear hc1
                          go_wp2_with fail
                          go_roundg (uncost D ord n + pcost D Q (m + 1))
                          case measure => exact pop_cost
                          case rel =>
                            refine ⟨nc + 1, vis, s2, (m + 1), ord, lw, _, _, sf, _, _, Q, rfl, by omega, hvis, by omega, by omega, by go_num, rfl, hT3, hC3, hP3, ?_, ?_, hPa, hB3⟩
                            · intro kk hkk
                              exact hAp.out kk (by rw [← hVS1.out]; exact hkk)
                            · rw [HLL.out]; exact HC1
                        · have e1 : (((x : Nat) : Int) == ((v : Nat) : Int)) = false := by rw [beq_eq_false_iff_ne]; omega
                          have HXV : Hid (x ≠ v) := hxv
                          clear hxv
                          go_wp2_with fail
                          go_roundg s2
                          case measure => omega
                          case rel =>
                            refine ⟨s2, _, _, _, rfl, by omega, ?_, hT3, hC3, hPop2, hVS1, hP3, hB3⟩
                            obtain ⟨i, hi, e⟩ := hEx.out
                            refine ⟨i, ?_, e⟩
                            by_cases ei : i = s2
                            · rw [ei, ← HX.out] at e; exact absurd e HXV.out
                            · omega
                    · have e0 : (((low v : Nat) : Int) != ((ord v : Nat) : Int)) = true := by simp; omega
                      have HLE : Hid (low v ≠ ord v) := hlo
                      clear hlo
                      have hf := (hSI.out.finish HKL.out (by rw [← HV.out]; exact HLE.out)).2
                      rw [Nat.add_sub_cancel, ← HPP.out, ← HV.out, ← HLW0.out] at hf
                      have HF : Hid (SI n D ord lw cmp opn nc vis sl sf (m + 1) Q) := hf
                      clear hf
                      go_wp2_with (go_quiet (fail))
                      generalize hw22 : World.drewN _ _ = w22
                      have HO22 : Hid (Only (fun _ => False) w21 w22) := by rw [← hw22]; exact Only.drewN w21 _ _
                      clear hw22
                      go_roundg (uncost D ord n + pcost D Q (m + 1))
                      case measure => exact pop_cost
                      case rel =>
                        have HO2 : Hid (Only (fun kk => kk = t.L) wr w22) := HO21.out.trans (HO22.out.weak (fun _ h => h.elim))
                        refine ⟨nc, vis, sl, m + 1, ord, lw, cmp, opn, sf, vs, _, Q, rfl, hnc, hvis, hsl, by omega, rfl, rfl, HT21'.out.only HO22.out (fun _ _ => id) (fun _ _ => id), hC.out.only HO2.out (by have := HCD.out; omega), ?_, hAp, HF, hPa, hB.out.trans (HO2.out.below hB.out.size (fun kk hk e => by have := HLO.out; omega))⟩
                        refine HPs.out.only HO2.out (fun kk hk e => ?_)
                        have hkg : kk = g := by cases hk; rfl
                        rw [hkg] at e
                        have h5 := hT.out.ok.kL
                        omega
        · have e0 : (((ord r : Nat) : Int) == 0) = false := by rw [beq_eq_false_iff_ne]; omega
          have H0 : Hid (ord r ≠ 0) := h0
          clear h0
          go_wp2_with fail
          go_roundg (n - (r + 1))
          case measure => omega
          case rel => exact ⟨r + 1, nc, vis, ord, low, cmp, opn, sf, vs, rfl, by omega, hnc, hvis, by go_num, rfl, hT, hC, hSI, fun u hu => by
            by_cases e : u = r
            · rw [e]; exact H0.out
            · exact hPast.out u (by omega), hB⟩
      ·
        as_aux_lemma =>
          obtain rfl : n = r := by omega
          obtain ⟨d1, d2⟩ := hSI.out.ti.done hPast.out
          have HD1 : Hid (∀ u v, u < n → v < n → (cmp u = cmp v ↔ Plain.Reach D u v ∧ Plain.Reach D v u)) := d1
          have HD2 : Hid (∀ u, u < n → cmp u < nc ∧ ∀ x, x ∈ D u → cmp x ≤ cmp u) := d2
          clear d1 d2
          have HBr : Hid (Arr wr b 56 14 F) := HB.out.below hB.out HB.out.lt
          have HOr : Hid (Only (fun k => k = b) w wr) := Only.belowAll hB.out _
          have HCr : Hid (w.heap.size ≤ C ∧ C < wr.heap.size) := ⟨by have := HLO.out; omega, hC.out.lt⟩
          have hbw : b < w.heap.size := HB.out.lt
          clear hT hSI hPast hB HT HC9 HB9 HD HCD HLO
          have hmk := run_make_row' (P := Try.prog) 26 3 (.int .i64 0) 8 Try.underlying26 Try.info3 rfl .i64 .i64 n (by omega) (by omega)
          have cb := (HBr.out.alloc (.cells (madeCells #[.int .i64 0] n) 3)).cell (i := 8) (by omega)
          have fb := (HBr.out.alloc (.cells (madeCells #[.int .i64 0] n) 3)).free 8
          go_upto_region 37 with fail
          obtain ⟨w30, hw30⟩ : ∃ w30 : World, w30 = wr.alloc (.cells (madeCells #[.int .i64 0] n) 3) := ⟨_, rfl⟩
          rw [← hw30]
          have hA30 : Hid (Arr w30 wr.heap.size 3 n (fun _ => .int .i64 0)) := by rw [hw30]; exact made_at _ _ _ _
          have hN30 : Hid (New wr w30) := by rw [hw30]; exact New.alloc _ _
          clear hw30 hmk
          obtain ⟨GA, hGA⟩ : ∃ GA, GA = wr.heap.size := ⟨_, rfl⟩
          rw [← hGA] at hA30 ⊢
          generalize hw31 : World.setCell _ _ _ = w31
          have hbr : b < wr.heap.size := by have := HOr.out.size; omega
          have HF31 : Hid (Arr w31 b 56 14 (upd F 8 (.slice (some ⟨GA, 0, none⟩) n n))) := by rw [← hw31]; exact (HBr.out.new hN30.out).set 8 _
          have HG31 : Hid (Arr w31 GA 3 n (nv (fun _ => 0))) := by rw [← hw31]; exact hA30.out.other (by simp only; omega) _
          have HC31 : Hid (Arr w31 C 3 n (nv cmp)) := by rw [← hw31]; exact (hC.out.new hN30.out).other (by have := HCr.out; simp only; omega) _
          have HO31 : Hid (Only (fun k => k = b) w w31) := by rw [← hw31]; exact (HOr.out.trans (Only.new hN30.out _)).trans (Only.put1 (fun k => k = b) w30 b 8 _ rfl)
          have HGA : Hid (w.heap.size ≤ GA ∧ GA < w31.heap.size ∧ C ≠ GA) := by
            have h1 := HOr.out.size
            have h2 := HG31.out.lt
            have h3 := HCr.out
            refine ⟨by omega, h2, by omega⟩
          clear hw31 hGA hA30 hN30 cb fb hC HBr HOr
          have hncn : nc ≤ n := hnc
          have hmk := run_make_row' (P := Try.prog) 26 3 (.int .i64 0) 8 Try.underlying26 Try.info3 rfl .i64 .i64 nc (by omega) (by omega)
          go_upto_region 38 with fail
          obtain ⟨w32, hw32⟩ : ∃ w32 : World, w32 = w31.alloc (.cells (madeCells #[.int .i64 0] nc) 3) := ⟨_, rfl⟩
          rw [← hw32]
          have hA32 : Hid (Arr w32 w31.heap.size 3 nc (fun _ => .int .i64 0)) := by rw [hw32]; exact made_at _ _ _ _
          have hN32 : Hid (New w31 w32) := by rw [hw32]; exact New.alloc _ _
          clear hw32 hmk
          obtain ⟨NU, hNU⟩ : ∃ NU, NU = w31.heap.size := ⟨_, rfl⟩
          rw [← hNU] at hA32 ⊢
          have HF32 : Hid (Arr w32 b 56 14 (upd F 8 (.slice (some ⟨GA, 0, none⟩) n n))) := HF31.out.new hN32.out
          have HG32 : Hid (Arr w32 GA 3 n (nv (fun _ => 0))) := HG31.out.new hN32.out
          have HC32 : Hid (Arr w32 C 3 n (nv cmp)) := HC31.out.new hN32.out
          have HO32 : Hid (Only (fun k => k = b) w w32) := HO31.out.trans (Only.new hN32.out _)
          have HBK : Hid (b < w.heap.size ∧ w.heap.size ≤ GA ∧ GA < NU ∧ C ≠ GA ∧ C < NU ∧ w.heap.size ≤ C ∧ w.heap.size ≤ NU) := by
            have h1 := HGA.out
            have h2 := HCr.out
            have h3 := HC31.out.lt
            refine ⟨hbw, by omega, by omega, by omega, by omega, by omega, by omega⟩
          clear hNU hN32 HF31 HG31 HC31 HO31 HGA HCr hbr
          go_wp2_with fail
          go_loopg [19, 198] n (fun z c19 c198 wr => ∃ (v sl : Nat) (grp num sz : Nat → Nat) (vz : Value), z = n - v ∧ v ≤ n ∧ c198 = .int .i64 v ∧ c19 = vz ∧ Hid (Arr wr b 56 14 (upd F 8 (.slice (some ⟨GA, 0, none⟩) n n))) ∧ Hid (Arr wr GA 3 n (nv grp)) ∧ Hid (Arr wr NU 3 nc (nv num)) ∧ Hid (Own wr (NU + 1) 3 vz sl (nv sz)) ∧ Hid (Arr wr C 3 n (nv cmp)) ∧ Hid (GI cmp v grp sl num) ∧ Hid (∀ g, g < sl → sz g = cnt grp g v) ∧ Hid (∀ u, v ≤ u → grp u = 0) ∧ Hid (Only (fun k => k = b) w wr))
          case atStart => exact ⟨0, 0, fun _ => 0, fun _ => 0, fun _ => 0, _, by omega, by omega, rfl, rfl, HF32, HG32, hA32, Own.nil _ _ _ _, HC32, GI.start cmp _, fun g hg => by omega, fun _ _ => rfl, HO32⟩
          case round =>
            obtain ⟨v, sl, grp, num, sz, vz, rfl, hv, rfl, hvz, hF, hG, hNm, hSz, hC, hGI, hCt, hOff, hO⟩ := hrel
            obtain rfl := hvz.symm
            have hsln : sl ≤ v := hGI.out.le
            have bk := HBK.out
            have BK1 : b ≠ GA := by omega
            have BK2 : b ≠ NU := by omega
            by_cases hvn : v < n
            · have cC := hC.out.cell hvn
              rw [show nv cmp v = .int .i64 ((cmp v : Nat) : Int) from rfl] at cC
              have hx := (HD2.out v hvn).1
              have cN := hNm.out.cell hx
              rw [show nv num (cmp v) = .int .i64 ((num (cmp v) : Nat) : Int) from rfl] at cN
              obtain ⟨x, hxx⟩ : ∃ x, x = cmp v := ⟨_, rfl⟩
              rw [← hxx] at cC cN hx
              have HX : Hid (x = cmp v) := hxx
              clear hxx bk
              as_aux_lemma =>
                by_cases h0 : num x = 0
                · have e0 : (((num x : Nat) : Int) == 0) = true := by rw [h0]; rfl
                  have H0 : Hid (num (cmp v) = 0) := by show _ = _; rw [← HX.out]; exact h0
                  clear h0
                  go_upto_region 44 with (
                    at_builtin
                    refine app_one' (wr.alloc (.cells #[.int .i64 0] 3)) rfl (.tmp 209) (.tmp 210) 26 rfl (NU + 1) 3 (.int .i64 0) 8 Try.underlying26 Try.info3 rfl vz sl (nv sz) (by simp [Act.eval]) (hSz.out.alloc _) wr.heap.size 1 (.int .i64 0) (by simp [Act.eval]) (cell_new _ _ _) rfl (by unfold maxLen; omega) (by omega) (by have := hNm.out.lt; simp; omega) ?_
                    intro vz' w33 o1 o2 o3)
                  obtain ⟨gz, cz, rfl⟩ := o1.out.some_
                  have O1 : Hid (Own w33 (NU + 1) 3 (.slice (some ⟨gz, 0, none⟩) (sl + 1) cz) (sl + 1) (upd (nv sz) sl (.int .i64 0))) := o1
                  have O2 : Hid (Only (fun k => vz.ownBlock = some k) wr w33) := (Only.alloc wr _ _).trans' (Only.grown o2.out) (fun i _ h => h.symm)
                  have hvb : ∀ k, vz.ownBlock = some k → NU < k := fun k hk => by have := (hSz.out.lt k hk).1; omega
                  have HVB : Hid (∀ k, vz.ownBlock = some k → NU < k) := hvb
                  have bk := HBK.out
                  have F33 : Hid (Arr w33 b 56 14 (upd F 8 (.slice (some ⟨GA, 0, none⟩) n n))) := hF.out.only O2.out (fun h => by have := hvb _ h; omega)
                  have G33 : Hid (Arr w33 GA 3 n (nv grp)) := hG.out.only O2.out (fun h => by have := hvb _ h; omega)
                  have N33 : Hid (Arr w33 NU 3 nc (nv num)) := hNm.out.only O2.out (fun h => by have := hvb _ h; omega)
                  have C33 : Hid (Arr w33 C 3 n (nv cmp)) := hC.out.only O2.out (fun h => by have := hvb _ h; omega)
                  have cC33 := C33.out.cell hvn
                  rw [show nv cmp v = .int .i64 ((cmp v : Nat) : Int) from rfl, ← HX.out] at cC33
                  have fN33 := N33.out.free x
                  have cN33 := N33.out.cell hx
                  clear o1 o2 o3 hvb bk
                  go_upto_region 45 with fail
                  obtain ⟨w34, hw34⟩ : ∃ w34 : World, w34 = w33.setCell ⟨NU, x, none⟩ (.int .i64 ((sl : Int) + 1)) := ⟨_, rfl⟩
                  rw [← hw34]
                  have HVB' := HVB.out
                  have bk := HBK.out
                  have HO34 : Hid (Only (fun k => k = NU) w33 w34) := by rw [hw34]; exact Only.put1 (fun k => k = NU) w33 NU x _ rfl
                  have N34 : Hid (Arr w34 NU 3 nc (nv (upd num x (sl + 1)))) := by
                    rw [hw34]
                    have := N33.out.set x (.int .i64 ((sl + 1 : Nat) : Int))
                    rw [upd_nv] at this
                    exact this
                  clear hw34
                  have F34 : Hid (Arr w34 b 56 14 (upd F 8 (.slice (some ⟨GA, 0, none⟩) n n))) := F33.out.only HO34.out (by omega)
                  have G34 : Hid (Arr w34 GA 3 n (nv grp)) := G33.out.only HO34.out (by omega)
                  have C34 : Hid (Arr w34 C 3 n (nv cmp)) := C33.out.only HO34.out (by omega)
                  have S34 : Hid (Own w34 (NU + 1) 3 (.slice (some ⟨gz, 0, none⟩) (sl + 1) cz) (sl + 1) (nv (upd sz sl 0))) := by
                    have := O1.out.only HO34.out (fun k hk h => by have := (O1.out.lt k hk).1; omega)
                    have e := upd_nv sz sl 0
                    rw [show ((0 : Nat) : Int) = 0 from rfl] at e
                    rw [e] at this
                    exact this
                  have O34 : Hid (Only (fun k => k = b) w w34) := (hO.out.trans' O2.out (fun i hi h => by have := HVB' _ h; omega)).trans' HO34.out (fun i hi h => by omega)
                  obtain ⟨num1, hn1⟩ : ∃ num1, num1 = upd num x (sl + 1) := ⟨_, rfl⟩
                  obtain ⟨sz1, hz1⟩ : ∃ sz1, sz1 = upd sz sl 0 := ⟨_, rfl⟩
                  obtain ⟨sl1, hl1⟩ : ∃ sl1, sl1 = sl + 1 := ⟨_, rfl⟩
                  obtain ⟨g, hgg⟩ : ∃ g, g = sl := ⟨_, rfl⟩
                  have HGI1 : Hid (GI cmp (v + 1) (upd grp v g) sl1 num1) := by
                    have := hGI.out.new H0.out
                    rw [hgg, hl1, hn1, HX.out]; exact this
                  have hg1 : g < sl1 := by omega
                  have hnum1 : num1 x = g + 1 := by rw [hn1, upd_same, hgg]
                  have HCT1 : Hid (∀ g', g' < sl1 → sz1 g' = cnt grp g' v) := by
                    intro g' hg'
                    rw [hz1]
                    simp only [upd]
                    by_cases e : g' = sl
                    · rw [if_pos e, e]
                      have key : ∀ K, K ≤ v → cnt grp sl K = 0 := by
                        intro K
                        induction K with
                        | zero => intro _; rfl
                        | succ K ih =>
                          intro hK
                          have h5 := hGI.out.lt K (by omega)
                          simp only [cnt]
                          rw [ih (by omega), if_neg (by omega)]
                      exact (key v (Nat.le_refl _)).symm
                    · rw [if_neg e]; exact hCt.out g' (by omega)
                  have hsl1n : sl1 ≤ n := by omega
                  rw [← hn1] at N34
                  rw [← hz1, ← hl1] at S34
                  rw [show (Value.slice (some ⟨gz, 0, none⟩) (sl + 1) cz) = .slice (some ⟨gz, 0, none⟩) sl1 cz by rw [hl1]]
                  clear hn1 hz1 hgg hl1 F33 G33 N33 C33 O1 O2 cC33 fN33 cN33 cC cN bk HVB' hF hG hNm hSz hC hGI hCt hO H0
                  have c8 := F34.out.cell (i := 8) (by omega)
                  rw [show upd F 8 (.slice (some ⟨GA, 0, none⟩) n n) 8 = .slice (some ⟨GA, 0, none⟩) n n from upd_same _ _ _] at c8
                  have cC34 := C34.out.cell hvn
                  rw [show nv cmp v = .int .i64 ((cmp v : Nat) : Int) from rfl, ← HX.out] at cC34
                  have cN34 := N34.out.cell hx
                  rw [show nv num1 x = .int .i64 ((num1 x : Nat) : Int) from rfl, hnum1, show ((g + 1 : Nat) : Int) = (g : Int) + 1 from rfl] at cN34
                  have cG34 := G34.out.cell hvn
                  have fG34 := G34.out.free v
                  have HNUM1 : Hid (num1 x = g + 1) := hnum1
                  have hgn : g < 100000 := by omega
                  clear hnum1
                  go_region
                  generalize hw35 : World.drew _ = w35
                  have bk := HBK.out
                  have HO35 : Hid (Only (fun k => k = GA) w34 w35) := by rw [← hw35]; exact (Only.put1 (fun k => k = GA) w34 GA v _ rfl).trans (Only.drewN _ 1 _)
                  have G35 : Hid (Arr w35 GA 3 n (nv (upd grp v g))) := by
                    rw [← hw35]
                    have := G34.out.set v (.int .i64 (g : Nat))
                    rw [upd_nv] at this
                    exact this.drew
                  clear hw35
                  have F35 : Hid (Arr w35 b 56 14 (upd F 8 (.slice (some ⟨GA, 0, none⟩) n n))) := F34.out.only HO35.out (by omega)
                  have S35 : Hid (Own w35 (NU + 1) 3 (.slice (some ⟨gz, 0, none⟩) sl1 cz) sl1 (nv sz1)) := S34.out.only HO35.out (fun k hk h => by have := (S34.out.lt k hk).1; omega)
                  have c85 := F35.out.cell (i := 8) (by omega)
                  rw [show upd F 8 (.slice (some ⟨GA, 0, none⟩) n n) 8 = .slice (some ⟨GA, 0, none⟩) n n from upd_same _ _ _] at c85
                  have cG35 := G35.out.cell hvn
                  rw [show nv (upd grp v g) v = .int .i64 ((g : Nat) : Int) by simp only [nv, upd_same]] at cG35
                  have cS35 := S35.out.row.cell hg1
                  have fS35 := S35.out.row.free g
                  rw [show nv sz1 g = .int .i64 ((sz1 g : Nat) : Int) from rfl] at cS35
                  have hszb : sz1 g ≤ 100000 := by rw [HCT1.out g hg1]; have := cnt_le grp g v; omega
                  have hgz : NU < gz := by have := (S34.out.lt gz rfl).1; omega
                  clear bk
                  go_wp2_with fail
                  go_roundg (n - (v + 1))
                  case measure => omega
                  case rel =>
                    have bk := HBK.out
                    have HO36 : ∀ u, Only (fun k => k = gz) w35 (w35.setCell ⟨gz, g, none⟩ u) := fun u => Only.put1 (fun k => k = gz) w35 gz g u rfl
                    refine ⟨v + 1, sl1, upd grp v g, num1, upd sz1 g (sz1 g + 1), _, rfl, by omega, by go_num, rfl, F35.out.only (HO36 _) (by omega), G35.out.only (HO36 _) (by omega), (N34.out.only HO35.out (by omega)).only (HO36 _) (by omega), ?_, (C34.out.only HO35.out (by omega)).only (HO36 _) (by omega), HGI1, ?_, ?_, ?_⟩
                    · have := S35.out.setIn hg1 (.int .i64 ((sz1 g + 1 : Nat) : Int))
                      rw [upd_nv] at this
                      exact this
                    · intro g' hg'
                      rw [cnt_upd]
                      simp only [upd]
                      by_cases e : g' = g
                      · rw [if_pos e, if_pos e.symm, e, HCT1.out g hg1]
                      · rw [if_neg e, if_neg (fun h => e h.symm), HCT1.out g' hg', Nat.add_zero]
                    · intro u hu
                      rw [upd_other _ _ _ _ (by omega)]
                      exact hOff.out u (by omega)
                    · refine (O34.out.trans' HO35.out (fun i hi h => ?_)).trans' (HO36 _) (fun i hi h => ?_)
                      · omega
                      · omega
                · obtain ⟨g, hg⟩ : ∃ g, num x = g + 1 := ⟨num x - 1, by omega⟩
                  have e0 : (((num x : Nat) : Int) == 0) = false := by rw [beq_eq_false_iff_ne]; omega
                  obtain ⟨hgi, hg1⟩ := hGI.out.old (g := g) (by rw [← HX.out]; exact hg)
                  have HGI1 : Hid (GI cmp (v + 1) (upd grp v g) sl num) := hgi
                  clear hgi h0
                  obtain ⟨gz, cz, rfl⟩ : ∃ gz cz, vz = .slice (some ⟨gz, 0, none⟩) sl cz := by
                    rcases hSz.out.cases with ⟨_, h⟩ | ⟨gz, cz, h, _⟩
                    · omega
                    · exact ⟨gz, cz, h⟩
                  go_upto_region 45 with fail
                  obtain ⟨w34, hw34⟩ : ∃ w34 : World, w34 = wr := ⟨_, rfl⟩
                  rw [← hw34]
                  rw [← hw34] at hF hG hNm hSz hC hO
                  have F34 := hF
                  have G34 := hG
                  have N34 := hNm
                  have S34 := hSz
                  have C34 := hC
                  have O34 := hO
                  have HCT1 := hCt
                  have hsl1n : sl ≤ n := by omega
                  clear hw34 hF hG hNm hSz hC hO hCt e0 cN cC
                  obtain ⟨num1, hn1⟩ : ∃ num1, num1 = num := ⟨_, rfl⟩
                  obtain ⟨sz1, hz1⟩ : ∃ sz1, sz1 = sz := ⟨_, rfl⟩
                  obtain ⟨sl1, hl1⟩ : ∃ sl1, sl1 = sl := ⟨_, rfl⟩
                  rw [← hn1] at N34 HGI1 hg
                  rw [← hz1] at S34 HCT1
                  rw [← hl1] at S34 HCT1 HGI1 hg1 hsl1n ⊢
                  have hnum1 := hg
                  clear hg hn1 hz1 hl1
                  have c8 := F34.out.cell (i := 8) (by omega)
                  rw [show upd F 8 (.slice (some ⟨GA, 0, none⟩) n n) 8 = .slice (some ⟨GA, 0, none⟩) n n from upd_same _ _ _] at c8
                  have cC34 := C34.out.cell hvn
                  rw [show nv cmp v = .int .i64 ((cmp v : Nat) : Int) from rfl, ← HX.out] at cC34
                  have cN34 := N34.out.cell hx
                  rw [show nv num1 x = .int .i64 ((num1 x : Nat) : Int) from rfl, hnum1, show ((g + 1 : Nat) : Int) = (g : Int) + 1 from rfl] at cN34
                  have cG34 := G34.out.cell hvn
                  have fG34 := G34.out.free v
                  have HNUM1 : Hid (num1 x = g + 1) := hnum1
                  have hgn : g < 100000 := by omega
                  clear hnum1
                  go_region
                  generalize hw35 : World.drew _ = w35
                  have bk := HBK.out
                  have HO35 : Hid (Only (fun k => k = GA) w34 w35) := by rw [← hw35]; exact (Only.put1 (fun k => k = GA) w34 GA v _ rfl).trans (Only.drewN _ 1 _)
                  have G35 : Hid (Arr w35 GA 3 n (nv (upd grp v g))) := by
                    rw [← hw35]
                    have := G34.out.set v (.int .i64 (g : Nat))
                    rw [upd_nv] at this
                    exact this.drew
                  clear hw35
                  have F35 : Hid (Arr w35 b 56 14 (upd F 8 (.slice (some ⟨GA, 0, none⟩) n n))) := F34.out.only HO35.out (by omega)
                  have S35 : Hid (Own w35 (NU + 1) 3 (.slice (some ⟨gz, 0, none⟩) sl1 cz) sl1 (nv sz1)) := S34.out.only HO35.out (fun k hk h => by have := (S34.out.lt k hk).1; omega)
                  have c85 := F35.out.cell (i := 8) (by omega)
                  rw [show upd F 8 (.slice (some ⟨GA, 0, none⟩) n n) 8 = .slice (some ⟨GA, 0, none⟩) n n from upd_same _ _ _] at c85
                  have cG35 := G35.out.cell hvn
                  rw [show nv (upd grp v g) v = .int .i64 ((g : Nat) : Int) by simp only [nv, upd_same]] at cG35
                  have cS35 := S35.out.row.cell hg1
                  have fS35 := S35.out.row.free g
                  rw [show nv sz1 g = .int .i64 ((sz1 g : Nat) : Int) from rfl] at cS35
                  have hszb : sz1 g ≤ 100000 := by rw [HCT1.out g hg1]; have := cnt_le grp g v; omega
                  have hgz : NU < gz := by have := (S34.out.lt gz rfl).1; omega
                  clear bk
                  go_wp2_with fail
                  go_roundg (n - (v + 1))
                  case measure => omega
                  case rel =>
                    have bk := HBK.out
                    have HO36 : ∀ u, Only (fun k => k = gz) w35 (w35.setCell ⟨gz, g, none⟩ u) := fun u => Only.put1 (fun k => k = gz) w35 gz g u rfl
                    refine ⟨v + 1, sl1, upd grp v g, num1, upd sz1 g (sz1 g + 1), _, rfl, by omega, by go_num, rfl, F35.out.only (HO36 _) (by omega), G35.out.only (HO36 _) (by omega), (N34.out.only HO35.out (by omega)).only (HO36 _) (by omega), ?_, (C34.out.only HO35.out (by omega)).only (HO36 _) (by omega), HGI1, ?_, ?_, ?_⟩
                    · have := S35.out.setIn hg1 (.int .i64 ((sz1 g + 1 : Nat) : Int))
                      rw [upd_nv] at this
                      exact this
                    · intro g' hg'
                      rw [cnt_upd]
                      simp only [upd]
                      by_cases e : g' = g
                      · rw [if_pos e, if_pos e.symm, e, HCT1.out g hg1]
                      · rw [if_neg e, if_neg (fun h => e h.symm), HCT1.out g' hg', Nat.add_zero]
                    · intro u hu
                      rw [upd_other _ _ _ _ (by omega)]
                      exact hOff.out u (by omega)
                    · refine (O34.out.trans' HO35.out (fun i hi h => ?_)).trans' (HO36 _) (fun i hi h => ?_)
                      · omega
                      · omega
            · obtain rfl : n = v := by omega
              have HGR : Hid (Gr n D grp sl) := hGI.out.done HD1.out HD2.out hOff.out
              have HPALL : Hid (pre grp n sl = n) := pre_all grp sl n (fun k hk => hGI.out.lt k hk)
              have HGLT : Hid (∀ u, u < n → grp u < sl) := hGI.out.lt
              obtain ⟨zo, cz, rfl⟩ := hSz.out.shape
              obtain ⟨G, hGe⟩ : ∃ G, G = sl := ⟨_, rfl⟩
              rw [← hGe] at HGR HPALL HGLT hSz hCt hsln ⊢
              clear hGe hGI HD1 HD2 hOff hC hNm bk
              have hmk := run_make_row0 (P := Try.prog) 26 3 (.int .i64 0) 8 Try.underlying26 Try.info3 rfl .i64 .i64 n (by omega) (by omega)
              go_upto_region 49 with fail
              obtain ⟨w37, hw37⟩ : ∃ w37 : World, w37 = wr.alloc (.cells (madeCells #[.int .i64 0] n) 3) := ⟨_, rfl⟩
              rw [← hw37]
              obtain ⟨AL, hAL⟩ : ∃ AL, AL = wr.heap.size := ⟨_, rfl⟩
              rw [← hAL]
              have A37 : Hid (Arr w37 AL 3 n (nv (fun _ => 0))) := by rw [hw37, hAL]; exact made_at _ _ _ _
              have N37 : Hid (New wr w37) := by rw [hw37]; exact New.alloc _ _
              have HAL : Hid (w.heap.size ≤ AL ∧ GA < AL) := by
                have h1 := hO.out.size
                have h2 := hG.out.lt
                exact ⟨by omega, by omega⟩
              have S37 : Hid (Own w37 (NU + 1) 3 (.slice zo G cz) G (nv sz)) := hSz.out.only (Only.new N37.out (fun _ => False)) (fun _ _ => id)
              have HSB : Hid (∀ k, (Value.slice zo G cz).ownBlock = some k → NU < k ∧ k < AL) := fun k hk => by have := hSz.out.lt k hk; omega
              have F37 : Hid (Arr w37 b 56 14 (upd F 8 (.slice (some ⟨GA, 0, none⟩) n n))) := hF.out.new N37.out
              have G37 : Hid (Arr w37 GA 3 n (nv grp)) := hG.out.new N37.out
              have O37 : Hid (Only (fun k => k = b) w w37) := hO.out.trans (Only.new N37.out _)
              clear hw37 hAL hmk N37 hF hG hO hSz
              have hmk := run_make_row' (P := Try.prog) 36 26 (.slice none 0 0) 24 Try.underlying36 Try.info26 rfl .i64 .i64 G (by omega) (by omega)
              have cb := (F37.out.alloc (.cells (madeCells #[.slice none 0 0] G) 26)).cell (i := 9) (by omega)
              have fb := (F37.out.alloc (.cells (madeCells #[.slice none 0 0] G) 26)).free 9
              go_upto_region 50 with fail
              obtain ⟨w38, hw38⟩ : ∃ w38 : World, w38 = w37.alloc (.cells (madeCells #[.slice none 0 0] G) 26) := ⟨_, rfl⟩
              rw [← hw38]
              obtain ⟨LM, hLM⟩ : ∃ LM, LM = w37.heap.size := ⟨_, rfl⟩
              rw [← hLM]
              have hA38 : Hid (Arr w38 LM 26 G (fun _ => .slice none 0 0)) := by rw [hw38, hLM]; exact made_at _ _ _ _
              have N38 : Hid (New w37 w38) := by rw [hw38]; exact New.alloc _ _
              have HLM : Hid (AL < LM ∧ b < w.heap.size) := ⟨by show _ < _; rw [hLM]; exact A37.out.lt, hbw⟩
              clear hw38 hLM hmk cb fb
              generalize hw39 : World.setCell _ _ _ = w39
              have bk := HBK.out
              have al := HAL.out
              have lm := HLM.out
              have HO39 : Hid (Only (fun k => k = b) w38 w39) := by rw [← hw39]; exact Only.put1 (fun k => k = b) w38 b 9 _ rfl
              have F39 : Hid (Arr w39 b 56 14 (upd (upd F 8 (.slice (some ⟨GA, 0, none⟩) n n)) 9 (.slice (some ⟨LM, 0, none⟩) G G))) := by rw [← hw39]; exact (F37.out.new N38.out).set 9 _
              have M39 : Hid (Arr w39 LM 26 G (fun _ => .slice none 0 0)) := hA38.out.only HO39.out (by omega)
              have G39 : Hid (Arr w39 GA 3 n (nv grp)) := (G37.out.new N38.out).only HO39.out (by omega)
              have A39 : Hid (Arr w39 AL 3 n (nv (fun _ => 0))) := (A37.out.new N38.out).only HO39.out (by omega)
              have S39 : Hid (Own w39 (NU + 1) 3 (.slice zo G cz) G (nv sz)) := (S37.out.only (Only.new N38.out (fun _ => False)) (fun _ _ => id)).only HO39.out (fun k hk h => by have := HSB.out k hk; omega)
              have O39 : Hid (Only (fun k => k = b) w w39) := (O37.out.trans (Only.new N38.out _)).trans HO39.out
              clear hw39 HO39 N38 F37 G37 A37 S37 O37 hA38 bk al lm
              go_wp2_with fail
              go_loopg [21, 257] G (fun z c21 c257 wr => ∃ (c : Nat) (val : Nat → Value), z = G - c ∧ c ≤ G ∧ c257 = .int .i64 c ∧ c21 = .slice (some ⟨AL, 0, none⟩) (pre grp n c) n ∧ Hid (Arr wr LM 26 G val) ∧ Hid (∀ g, g < c → val g = .slice (some ⟨AL, pre grp n g, none⟩) 0 (cnt grp g n)) ∧ Hid (Only (fun k => k = LM) w39 wr))
              case atStart => exact ⟨0, _, by omega, by omega, rfl, rfl, M39, fun g hg => by omega, Only.refl _ _⟩
              case round =>
                obtain ⟨c, val, rfl, hc, rfl, rfl, hM, hVal, hO5⟩ := hrel
                have al := HAL.out
                have lm := HLM.out
                have bk := HBK.out
                have F40 : Hid (Arr wr b 56 14 (upd (upd F 8 (.slice (some ⟨GA, 0, none⟩) n n)) 9 (.slice (some ⟨LM, 0, none⟩) G G))) := F39.out.only hO5.out (by omega)
                by_cases hcG : c < G
                · obtain ⟨gz, rfl⟩ : ∃ gz, zo = some ⟨gz, 0, none⟩ := by
                    rcases S39.out.cases with ⟨_, h⟩ | ⟨gz, c', h, _⟩
                    · omega
                    · simp only [Value.slice.injEq] at h
                      exact ⟨gz, h.1⟩
                  have S40 : Hid (Own wr (NU + 1) 3 (.slice (some ⟨gz, 0, none⟩) G cz) G (nv sz)) := S39.out.only hO5.out (fun k hk h => by have := HSB.out k hk; omega)
                  have cS := S40.out.row.cell hcG
                  rw [show nv sz c = .int .i64 ((sz c : Nat) : Int) from rfl, hCt.out c hcG] at cS
                  obtain ⟨u0, hu0, eu, eu2⟩ := HGR.out.onto c hcG
                  have hq0 : 1 ≤ cnt grp c n := by have := cnt_pos (grp := grp) hu0; rw [eu] at this; exact this
                  have hpq : pre grp n c + cnt grp c n ≤ n := by
                    have h1 := pre_mono grp n (c + 1) G hcG
                    have h2 := HPALL.out
                    simp only [pre] at h1
                    omega
                  have c9 := F40.out.cell (i := 9) (by omega)
                  rw [upd_same] at c9
                  have cM := hM.out.cell hcG
                  have fM := hM.out.free c
                  obtain ⟨p, hp⟩ : ∃ p, p = pre grp n c := ⟨_, rfl⟩
                  obtain ⟨q, hq⟩ : ∃ q, q = cnt grp c n := ⟨_, rfl⟩
                  rw [← hp, ← hq] at hpq
                  rw [← hq] at cS hq0
                  rw [← hp]
                  have HPE : Hid (p = pre grp n c) := hp
                  have HQE : Hid (q = cnt grp c n) := hq
                  clear hp hq eu2 eu hu0 al lm bk
                  go_upto_region 53 with fail
                  go_region
                  generalize hw41 : World.drew _ = w41
                  have al := HAL.out
                  have lm := HLM.out
                  have bk := HBK.out
                  have HO41 : Hid (Only (fun k => k = LM) wr w41) := by rw [← hw41]; exact (Only.put1 (fun k => k = LM) wr LM c _ rfl).trans (Only.drewN _ 1 _)
                  have M41 : Hid (Arr w41 LM 26 G (upd val c (.slice (some ⟨AL, p, none⟩) 0 q))) := by rw [← hw41]; exact (hM.out.set c _).drew
                  clear hw41 al lm bk
                  go_wp2_with fail
                  go_roundg (G - (c + 1))
                  case measure => omega
                  case rel =>
                    have epq : pre grp n (c + 1) = p + q := by rw [HPE.out, HQE.out]; rfl
                    refine ⟨c + 1, _, rfl, by omega, by go_num, by rw [epq], M41, ?_, hO5.out.trans HO41.out⟩
                    intro g hg
                    simp only [upd]
                    by_cases e : g = c
                    · rw [if_pos e, e, HPE.out, HQE.out]
                    · rw [if_neg e]; exact hVal.out g (by omega)
                · obtain rfl : G = c := by omega
                  have G42 : Hid (Arr wr GA 3 n (nv grp)) := G39.out.only hO5.out (by omega)
                  have A42 : Hid (Arr wr AL 3 n (nv (fun _ => 0))) := A39.out.only hO5.out (by omega)
                  have O42 : Hid (Only (fun k => k = LM ∨ k = AL) w39 wr) := hO5.out.weak (fun _ h => Or.inl h)
                  clear al lm bk
                  go_wp2_with fail
                  go_loopg [286] n (fun z c286 wr => ∃ (v : Nat) (A : Nat → Nat) (val : Nat → Value), z = n - v ∧ v ≤ n ∧ c286 = .int .i64 v ∧ Hid (Arr wr LM 26 G val) ∧ Hid (∀ g, g < G → val g = .slice (some ⟨AL, pre grp n g, none⟩) (cnt grp g v) (cnt grp g n)) ∧ Hid (Arr wr AL 3 n (nv A)) ∧ Hid (MI grp n v A) ∧ Hid (Only (fun k => k = LM ∨ k = AL) w39 wr))
                  case atStart => exact ⟨0, fun _ => 0, val, by omega, by omega, rfl, hM, hVal, A42, MI.start grp n _, O42⟩
                  case round =>
                    obtain ⟨v, A, val, rfl, hv, rfl, hM6, hVal6, hA6, hMI, hO6⟩ := hrel
                    have al := HAL.out
                    have lm := HLM.out
                    have bk := HBK.out
                    have F43 : Hid (Arr wr b 56 14 (upd (upd F 8 (.slice (some ⟨GA, 0, none⟩) n n)) 9 (.slice (some ⟨LM, 0, none⟩) G G))) := F39.out.only hO6.out (by omega)
                    have G43 : Hid (Arr wr GA 3 n (nv grp)) := G39.out.only hO6.out (by omega)
                    by_cases hvn : v < n
                    · have hdG : grp v < G := HGLT.out v hvn
                      have hrm := cnt_room (x := grp) hvn
                      have hpq : pre grp n (grp v) + cnt grp (grp v) n ≤ n := by
                        have h1 := pre_mono grp n (grp v + 1) G hdG
                        have h2 := HPALL.out
                        simp only [pre] at h1
                        omega
                      have e8 : upd (upd F 8 (.slice (some ⟨GA, 0, none⟩) n n)) 9 (.slice (some ⟨LM, 0, none⟩) G G) 8 = .slice (some ⟨GA, 0, none⟩) n n := by rw [upd_other _ _ _ _ (by omega), upd_same]
                      have e9 : upd (upd F 8 (.slice (some ⟨GA, 0, none⟩) n n)) 9 (.slice (some ⟨LM, 0, none⟩) G G) 9 = .slice (some ⟨LM, 0, none⟩) G G := upd_same _ _ _
                      obtain ⟨d, hd⟩ : ∃ d, d = grp v := ⟨_, rfl⟩
                      obtain ⟨p, hp⟩ : ∃ p, p = pre grp n d := ⟨_, rfl⟩
                      obtain ⟨k, hk⟩ : ∃ k, k = cnt grp d v := ⟨_, rfl⟩
                      obtain ⟨q, hq⟩ : ∃ q, q = cnt grp d n := ⟨_, rfl⟩
                      rw [← hd] at hdG hrm hpq
                      rw [← hk, ← hq] at hrm
                      rw [← hp, ← hq] at hpq
                      have ev : val d = .slice (some ⟨AL, p, none⟩) k q := by rw [hVal6.out d hdG, ← hp, ← hk, ← hq]
                      have HDE : Hid (d = grp v) := hd
                      have HPE : Hid (p = pre grp n d) := hp
                      have HKE : Hid (k = cnt grp d v) := hk
                      have HQE : Hid (q = cnt grp d n) := hq
                      have facts : Hid (∀ w', Arr w' b 56 14 (upd (upd F 8 (.slice (some ⟨GA, 0, none⟩) n n)) 9 (.slice (some ⟨LM, 0, none⟩) G G)) → Arr w' GA 3 n (nv grp) → Arr w' LM 26 G val → w'.cell? ⟨b, 8, none⟩ = some (.slice (some ⟨GA, 0, none⟩) n n) ∧ w'.cell? ⟨b, 9, none⟩ = some (.slice (some ⟨LM, 0, none⟩) G G) ∧ w'.cell? ⟨GA, v, none⟩ = some (.int .i64 ((d : Nat) : Int)) ∧ w'.cell? ⟨LM, d, none⟩ = some (.slice (some ⟨AL, p, none⟩) k q) ∧ w'.frozen? ⟨LM, d, none⟩ = false) := fun w' h1 h2 h3 => by
                        refine ⟨by rw [h1.cell (i := 8) (by omega), e8], by rw [h1.cell (i := 9) (by omega), e9], by rw [h2.cell hvn, hd]; rfl, by rw [h3.cell hdG, ev], h3.free d⟩
                      obtain ⟨a8, a9, aG, aM, aF⟩ := facts.out wr F43.out G43.out hM6.out
                      obtain ⟨b8, b9, bG, bM, bF⟩ := facts.out (wr.alloc (.cells #[.int .i64 (v : Nat)] 3)) (F43.out.alloc _) (G43.out.alloc _) (hM6.out.alloc _)
                      clear hd hp hk hq ev e8 e9 al lm bk
                      go_upto_region 59 with fail
                      have cA := hA6.out.cell (i := p + k) (by omega)
                      have fA := hA6.out.free (p + k)
                      have cAa := (hA6.out.alloc (.cells #[.int .i64 (v : Nat)] 3)).cell (i := p + k) (by omega)
                      have fAa := (hA6.out.alloc (.cells #[.int .i64 (v : Nat)] 3)).free (p + k)
                      have hne : b ≠ AL ∧ GA ≠ AL ∧ LM ≠ AL := by
                        have al := HAL.out
                        have lm := HLM.out
                        have bk := HBK.out
                        exact ⟨by omega, by omega, by omega⟩
                      obtain ⟨d8, d9, dG, dM, dF⟩ := facts.out ((wr.alloc (.cells #[.int .i64 (v : Nat)] 3)).setCell ⟨AL, p + k, none⟩ (.int .i64 (v : Nat))) ((F43.out.alloc _).other hne.1 _) ((G43.out.alloc _).other hne.2.1 _) ((hM6.out.alloc _).other hne.2.2 _)
                      have hne2 : b ≠ LM ∧ GA ≠ LM := by
                        have al := HAL.out
                        have lm := HLM.out
                        have bk := HBK.out
                        exact ⟨by omega, by omega⟩
                      have HF44 : Hid (Arr (((wr.alloc (.cells #[.int .i64 (v : Nat)] 3)).setCell ⟨AL, p + k, none⟩ (.int .i64 (v : Nat))).setCell ⟨LM, d, none⟩ (.slice (some ⟨AL, p, none⟩) (k + 1) q)) b 56 14 (upd (upd F 8 (.slice (some ⟨GA, 0, none⟩) n n)) 9 (.slice (some ⟨LM, 0, none⟩) G G))) := ((F43.out.alloc _).other hne.1 _).other hne2.1 _
                      have HG44 : Hid (Arr (((wr.alloc (.cells #[.int .i64 (v : Nat)] 3)).setCell ⟨AL, p + k, none⟩ (.int .i64 (v : Nat))).setCell ⟨LM, d, none⟩ (.slice (some ⟨AL, p, none⟩) (k + 1) q)) GA 3 n (nv grp)) := ((G43.out.alloc _).other hne.2.1 _).other hne2.2 _
                      have f8 := HF44.out.cell (i := 8) (by omega)
                      have f9 := HF44.out.cell (i := 9) (by omega)
                      have fG := HG44.out.cell hvn
                      rw [upd_other _ _ _ _ (by omega), upd_same] at f8
                      rw [upd_same] at f9
                      rw [show nv grp v = .int .i64 ((grp v : Nat) : Int) from rfl, ← HDE.out] at fG
                      refine wp_region_held_drew (S := (fun w' => w'.cell? ⟨b, 8, none⟩ = some (.slice (some ⟨GA, 0, none⟩) n n) ∧ w'.cell? ⟨b, 9, none⟩ = some (.slice (some ⟨LM, 0, none⟩) G G) ∧ w'.cell? ⟨GA, v, none⟩ = some (.int .i64 ((d : Nat) : Int)))) (by kernel_rfl) ⟨a8, a9, aG⟩ (fun hHeld => ?_)
                      refine wpAnyH_take (i := 0) (v := ?_) (by simp only [List.getElem?_toArray, List.getElem?_cons_zero]; rfl) (by kernel_rfl) (by kernel_rfl) (by kernel_rfl) (by exact fun _ _ _ h => h) (Or.inl ⟨by rfl, ?_⟩) (by assumption) ?_
                      rotate_left
                      · (intro w' hSw; (try dsimp only at hSw); go_simp <;> with_reducible rfl)
                      try simp only [Act.put, List.setIfInBounds_toArray, List.set_cons_zero, List.set_cons_succ]
                      refine wpAnyH_take (i := 1) (v := ?_) (by simp only [List.getElem?_toArray, List.getElem?_cons_succ, List.getElem?_cons_zero]; rfl) (by kernel_rfl) (by kernel_rfl) (by kernel_rfl) (by exact fun _ _ _ h => h) (Or.inl ⟨by rfl, ?_⟩) (by assumption) ?_
                      rotate_left
                      · (intro w' hSw; (try dsimp only at hSw); go_simp <;> with_reducible rfl)
                      try simp only [Act.put, List.setIfInBounds_toArray, List.set_cons_zero, List.set_cons_succ]
                      refine wpAnyH_take (i := 2) (v := ?_) (by simp only [List.getElem?_toArray, List.getElem?_cons_succ, List.getElem?_cons_zero]; rfl) (by kernel_rfl) (by kernel_rfl) (by kernel_rfl) (by exact fun _ _ _ h => h) (Or.inl ⟨by rfl, ?_⟩) (by assumption) ?_
                      rotate_left
                      · (intro w' hSw; (try dsimp only at hSw); go_simp <;> with_reducible rfl)
                      try simp only [Act.put, List.setIfInBounds_toArray, List.set_cons_zero, List.set_cons_succ]
                      refine wpAnyH_take (i := 3) (v := ?_) (by simp only [List.getElem?_toArray, List.getElem?_cons_succ, List.getElem?_cons_zero]; rfl) (by kernel_rfl) (by kernel_rfl) (by kernel_rfl) (by exact fun _ _ _ h => h) (Or.inl ⟨by rfl, ?_⟩) (by assumption) ?_
                      rotate_left
                      · (intro w' hSw; (try dsimp only at hSw); go_simp <;> with_reducible rfl)
                      try simp only [Act.put, List.setIfInBounds_toArray, List.set_cons_zero, List.set_cons_succ]
                      refine wpAnyH_take (i := 4) (v := ?_) (by simp only [List.getElem?_toArray, List.getElem?_cons_succ, List.getElem?_cons_zero]; rfl) (by kernel_rfl) (by kernel_rfl) (by kernel_rfl) (by exact fun _ _ _ h => h) (Or.inl ⟨by rfl, ?_⟩) (by assumption) ?_
                      rotate_left
                      · (intro w' hSw; (try dsimp only at hSw); go_simp <;> with_reducible rfl)
                      try simp only [Act.put, List.setIfInBounds_toArray, List.set_cons_zero, List.set_cons_succ]
                      refine wpAnyH_take (i := 5) (v := ?_) (by simp only [List.getElem?_toArray, List.getElem?_cons_succ, List.getElem?_cons_zero]; rfl) (by kernel_rfl) (by kernel_rfl) (by kernel_rfl) (by exact fun _ _ _ h => h) (Or.inl ⟨by rfl, ?_⟩) (by assumption) ?_
                      rotate_left
                      · (intro w' hSw; (try dsimp only at hSw); go_simp <;> with_reducible rfl)
                      try simp only [Act.put, List.setIfInBounds_toArray, List.set_cons_zero, List.set_cons_succ]
                      refine wpAnyH_take (i := 6) (v := ?_) (by simp only [List.getElem?_toArray, List.getElem?_cons_succ, List.getElem?_cons_zero]; rfl) (by kernel_rfl) (by kernel_rfl) (by kernel_rfl) (by exact fun _ _ _ h => h) (Or.inl ⟨by rfl, ?_⟩) (by assumption) ?_
                      rotate_left
                      · (intro w' hSw; (try dsimp only at hSw); go_simp <;> with_reducible rfl)
                      try simp only [Act.put, List.setIfInBounds_toArray, List.set_cons_zero, List.set_cons_succ]
                      refine wpAnyH_take (i := 7) (v := ?_) (by simp only [List.getElem?_toArray, List.getElem?_cons_succ, List.getElem?_cons_zero]; rfl) (by kernel_rfl) (by kernel_rfl) (by kernel_rfl) (by exact fun _ _ _ h => h) (Or.inl ⟨by rfl, ?_⟩) (by assumption) ?_
                      rotate_left
                      · (intro w' hSw; (try dsimp only at hSw); go_simp <;> with_reducible rfl)
                      try simp only [Act.put, List.setIfInBounds_toArray, List.set_cons_zero, List.set_cons_succ]
                      refine wpAnyH_take (i := 8) (v := ?_) (by simp only [List.getElem?_toArray, List.getElem?_cons_succ, List.getElem?_cons_zero]; rfl) (by kernel_rfl) (by kernel_rfl) (by kernel_rfl) (by exact fun _ _ _ h => h) (Or.inl ⟨by rfl, ?_⟩) (by assumption) ?_
                      rotate_left
                      · (intro w' hSw; (try dsimp only at hSw); go_simp <;> with_reducible rfl)
                      try simp only [Act.put, List.setIfInBounds_toArray, List.set_cons_zero, List.set_cons_succ]
                      refine wpAnyH_take (i := 9) (v := ?_) (by simp only [List.getElem?_toArray, List.getElem?_cons_succ, List.getElem?_cons_zero]; rfl) (by kernel_rfl) (by kernel_rfl) (by kernel_rfl) (by exact fun _ _ _ h => h) (Or.inl ⟨by rfl, ?_⟩) (by assumption) ?_
                      rotate_left
                      · (intro w' hSw; (try dsimp only at hSw); go_simp <;> with_reducible rfl)
                      try simp only [Act.put, List.setIfInBounds_toArray, List.set_cons_zero, List.set_cons_succ]
                      refine wpAnyH_take (i := 10) (v := ?_) (by simp only [List.getElem?_toArray, List.getElem?_cons_succ, List.getElem?_cons_zero]; rfl) (by kernel_rfl) (by kernel_rfl) (by kernel_rfl) (by exact fun _ _ _ h => h) (Or.inl ⟨by rfl, ?_⟩) (by assumption) ?_
                      rotate_left
                      · (intro w' hSw; (try dsimp only at hSw); go_simp <;> with_reducible rfl)
                      try simp only [Act.put, List.setIfInBounds_toArray, List.set_cons_zero, List.set_cons_succ]
                      refine wpAnyH_take (i := 11) (v := ?_) (by simp only [List.getElem?_toArray, List.getElem?_cons_succ, List.getElem?_cons_zero]; rfl) (by kernel_rfl) (by kernel_rfl) (by kernel_rfl) (by exact fun _ _ _ h => h) (Or.inl ⟨by rfl, ?_⟩) (by assumption) ?_
                      rotate_left
                      · (intro w' hSw; (try dsimp only at hSw); go_simp <;> with_reducible rfl)
                      try simp only [Act.put, List.setIfInBounds_toArray, List.set_cons_zero, List.set_cons_succ]
                      refine wpAnyH_take (i := 12) (v := ?_) (by simp only [List.getElem?_toArray, List.getElem?_cons_succ, List.getElem?_cons_zero]; rfl) (by kernel_rfl) (by kernel_rfl) (by kernel_rfl) (by exact fun _ _ _ h => h) (Or.inl ⟨by rfl, ?_⟩) (by assumption) ?_
                      rotate_left
                      · (intro w' hSw; (try dsimp only at hSw); go_simp <;> with_reducible rfl)
                      try simp only [Act.put, List.setIfInBounds_toArray, List.set_cons_zero, List.set_cons_succ]
                      refine wpAnyH_take (i := 13) (v := ?_) (by simp only [List.getElem?_toArray, List.getElem?_cons_succ, List.getElem?_cons_zero]; rfl) (by kernel_rfl) (by kernel_rfl) (by kernel_rfl) (by exact fun _ _ _ h => h) (Or.inl ⟨by rfl, ?_⟩) (by assumption) ?_
                      rotate_left
                      · (intro w' hSw; (try dsimp only at hSw); go_simp <;> with_reducible rfl)
                      try simp only [Act.put, List.setIfInBounds_toArray, List.set_cons_zero, List.set_cons_succ]
                      refine wpAnyH_take (i := 14) (v := ?_) (by simp only [List.getElem?_toArray, List.getElem?_cons_succ, List.getElem?_cons_zero]; rfl) (by kernel_rfl) (by kernel_rfl) (by kernel_rfl) (by exact fun _ _ _ h => h) (Or.inl ⟨by rfl, ?_⟩) (by assumption) ?_
                      rotate_left
                      · (intro w' hSw; (try dsimp only at hSw); go_simp <;> with_reducible rfl)
                      try simp only [Act.put, List.setIfInBounds_toArray, List.set_cons_zero, List.set_cons_succ]
                      refine wpAnyH_take (i := 15) (v := ?_) (by simp only [List.getElem?_toArray, List.getElem?_cons_succ, List.getElem?_cons_zero]; rfl) (by kernel_rfl) (by kernel_rfl) (by kernel_rfl) (by exact fun _ _ _ h => h) (Or.inl ⟨by rfl, ?_⟩) (by assumption) ?_
                      rotate_left
                      · (intro w' hSw; (try dsimp only at hSw); go_simp <;> with_reducible rfl)
                      try simp only [Act.put, List.setIfInBounds_toArray, List.set_cons_zero, List.set_cons_succ]
                      refine wpAnyH_take (i := 16) (v := ?_) (by simp only [List.getElem?_toArray, List.getElem?_cons_succ, List.getElem?_cons_zero]; rfl) (by kernel_rfl) (by kernel_rfl) (by kernel_rfl) (by exact fun _ _ _ h => h) (Or.inl ⟨by rfl, ?_⟩) (by assumption) ?_
                      rotate_left
                      · (intro w' hSw; (try dsimp only at hSw); go_simp <;> with_reducible rfl)
                      try simp only [Act.put, List.setIfInBounds_toArray, List.set_cons_zero, List.set_cons_succ]
                      refine wpAnyH_take (i := 17) (v := ?_) (by simp only [List.getElem?_toArray, List.getElem?_cons_succ, List.getElem?_cons_zero]; rfl) (by kernel_rfl) (by kernel_rfl) (by kernel_rfl) (by exact fun _ _ _ h => h) (Or.inl ⟨by rfl, ?_⟩) (by assumption) ?_
                      rotate_left
                      · (intro w' hSw; (try dsimp only at hSw); go_simp <;> with_reducible rfl)
                      try simp only [Act.put, List.setIfInBounds_toArray, List.set_cons_zero, List.set_cons_succ]
                      refine wpAnyH_take (i := 18) (v := ?_) (by simp only [List.getElem?_toArray, List.getElem?_cons_succ, List.getElem?_cons_zero]; rfl) (by kernel_rfl) (by kernel_rfl) (by kernel_rfl) (by exact fun _ _ _ h => h) (Or.inl ⟨by rfl, ?_⟩) (by assumption) ?_
                      rotate_left
                      · (intro w' hSw; (try dsimp only at hSw); go_simp <;> with_reducible rfl)
                      try simp only [Act.put, List.setIfInBounds_toArray, List.set_cons_zero, List.set_cons_succ]
                      refine wpAnyH_take (i := 19) (v := ?_) (by simp only [List.getElem?_toArray, List.getElem?_cons_succ, List.getElem?_cons_zero]; rfl) (by kernel_rfl) (by kernel_rfl) (by kernel_rfl) (by exact fun _ _ _ h => h) (Or.inl ⟨by rfl, ?_⟩) (by assumption) ?_
                      rotate_left
                      · (intro w' hSw; (try dsimp only at hSw); go_simp <;> with_reducible rfl)
                      try simp only [Act.put, List.setIfInBounds_toArray, List.set_cons_zero, List.set_cons_succ]
                      refine wpAnyH_take (i := 20) (v := ?_) (by simp only [List.getElem?_toArray, List.getElem?_cons_succ, List.getElem?_cons_zero]; rfl) (by kernel_rfl) (by kernel_rfl) (by kernel_rfl) (by exact fun _ _ _ h => h) (Or.inl ⟨by rfl, ?_⟩) (by assumption) ?_
                      rotate_left
                      · (intro w' hSw; (try dsimp only at hSw); go_simp <;> with_reducible rfl)
                      try simp only [Act.put, List.setIfInBounds_toArray, List.set_cons_zero, List.set_cons_succ]
                      refine wpAnyH_take (i := 21) (v := ?_) (by simp only [List.getElem?_toArray, List.getElem?_cons_succ, List.getElem?_cons_zero]; rfl) (by kernel_rfl) (by kernel_rfl) (by kernel_rfl) (by exact fun _ _ _ h => h) (Or.inl ⟨by rfl, ?_⟩) (by assumption) ?_
                      rotate_left
                      · (intro w' hSw; (try dsimp only at hSw); go_simp <;> with_reducible rfl)
                      try simp only [Act.put, List.setIfInBounds_toArray, List.set_cons_zero, List.set_cons_succ]
                      refine wpAnyH_take (i := 22) (v := ?_) (by simp only [List.getElem?_toArray, List.getElem?_cons_succ, List.getElem?_cons_zero]; rfl) (by kernel_rfl) (by kernel_rfl) (by kernel_rfl) (by exact fun _ _ _ h => h) (Or.inl ⟨by rfl, ?_⟩) (by assumption) ?_
                      rotate_left
                      · (intro w' hSw; (try dsimp only at hSw); go_simp <;> with_reducible rfl)
                      try simp only [Act.put, List.setIfInBounds_toArray, List.set_cons_zero, List.set_cons_succ]
                      refine wpAnyH_take (i := 24) (v := ?_) (by simp only [List.getElem?_toArray, List.getElem?_cons_succ, List.getElem?_cons_zero]; rfl) (by kernel_rfl) (by kernel_rfl) (by kernel_rfl) (by exact fun _ _ _ h => h) (Or.inl ⟨by rfl, ?_⟩) (by assumption) ?_
                      rotate_left
                      · (intro w' hSw; (try dsimp only at hSw); go_simp <;> with_reducible rfl)
                      try simp only [Act.put, List.setIfInBounds_toArray, List.set_cons_zero, List.set_cons_succ]
                      refine wpAnyH_ready (rs := [23, 25]) (by kernel_rfl) (by simp) ?_
                      refine AllReadyH.cons (by simp only [List.getElem?_toArray, List.getElem?_cons_succ, List.getElem?_cons_zero]; rfl) (fun K hK => ?_) (AllReadyH.cons (by simp only [List.getElem?_toArray, List.getElem?_cons_succ, List.getElem?_cons_zero]; rfl) (fun K hK => ?_) AllReadyH.nil)
                      · go_simp
                        refine hK.out _ _ ⟨a8, a9, aG⟩ (fun hHeld => ?_)
                        clear hK K
                        try simp only [Act.put, List.setIfInBounds_toArray, List.set_cons_zero, List.set_cons_succ]
                        refine wpAnyH_ready (rs := [25]) (by kernel_rfl) (by simp) ?_
                        refine AllReadyH.cons (by simp only [List.getElem?_toArray, List.getElem?_cons_succ, List.getElem?_cons_zero]; rfl) (fun K hK => ?_) AllReadyH.nil
                        go_simp
                        refine hK.out _ _ ⟨b8, b9, bG⟩ (fun hHeld => ?_)
                        clear hK K
                        try simp only [Act.put, List.setIfInBounds_toArray, List.set_cons_zero, List.set_cons_succ]
                        refine wpAnyH_ready (rs := [26]) (by kernel_rfl) (by simp) ?_
                        refine AllReadyH.cons (by simp only [List.getElem?_toArray, List.getElem?_cons_succ, List.getElem?_cons_zero]; rfl) (fun K hK => ?_) AllReadyH.nil
                        go_simp
                        refine hK.out _ _ ⟨d8, d9, dG⟩ (fun hHeld => ?_)
                        clear hK K
                        try simp only [Act.put, List.setIfInBounds_toArray, List.set_cons_zero, List.set_cons_succ]
                        refine wpAnyH_take (i := 27) (v := ?_) (by simp only [List.getElem?_toArray, List.getElem?_cons_succ, List.getElem?_cons_zero]; rfl) (by kernel_rfl) (by kernel_rfl) (by kernel_rfl) (by exact fun _ _ _ h => h) (Or.inl ⟨by rfl, ?_⟩) (by assumption) ?_
                        rotate_left
                        · (intro w' hSw; (try dsimp only at hSw); go_simp <;> with_reducible rfl)
                        try simp only [Act.put, List.setIfInBounds_toArray, List.set_cons_zero, List.set_cons_succ]
                        refine wpAnyH_ready (rs := [28]) (by kernel_rfl) (by simp) ?_
                        refine AllReadyH.cons (by simp only [List.getElem?_toArray, List.getElem?_cons_succ, List.getElem?_cons_zero]; rfl) (fun K hK => ?_) AllReadyH.nil
                        go_simp
                        refine hK.out _ _ ⟨f8, f9, fG⟩ (fun hHeld => ?_)
                        clear hK K
                        try simp only [Act.put, List.setIfInBounds_toArray, List.set_cons_zero, List.set_cons_succ]
                        refine wpAnyH_done (by kernel_rfl) ?_ _
                        generalize hw45 : World.drew _ = w45
                        have HA45 : Hid (Arr w45 AL 3 n (nv (upd A (p + k) v))) := by
                          rw [← hw45]
                          have := (hA6.out.alloc (.cells #[.int .i64 (v : Nat)] 3)).set (p + k) (.int .i64 (v : Nat))
                          rw [upd_nv] at this
                          exact (this.other (a := ⟨LM, d, none⟩) (fun e => hne.2.2 e.symm) _).drew
                        have HM45 : Hid (Arr w45 LM 26 G (upd val d (.slice (some ⟨AL, p, none⟩) (k + 1) q))) := by
                          rw [← hw45]
                          exact (((hM6.out.alloc (.cells #[.int .i64 (v : Nat)] 3)).other (a := ⟨AL, p + k, none⟩) hne.2.2 _).set d _).drew
                        have HO45 : Hid (Only (fun x => x = LM ∨ x = AL) wr w45) := by
                          rw [← hw45]
                          exact (((Only.alloc wr _ (fun x => x = LM ∨ x = AL)).trans (Only.put1 (fun x => x = LM ∨ x = AL) _ AL (p + k) _ (Or.inr rfl))).trans (Only.put1 (fun x => x = LM ∨ x = AL) _ LM d _ (Or.inl rfl))).trans (Only.drewN _ 1 _)
                        clear hw45
                        go_wp2_with fail
                        go_roundg (n - (v + 1))
                        case measure => omega
                        case rel =>
                          refine ⟨v + 1, upd A (p + k) v, _, rfl, by omega, by go_num, HM45, ?_, HA45, ?_, hO6.out.trans HO45.out⟩
                          · intro g hg
                            simp only [upd, cnt]
                            by_cases e : g = d
                            · rw [if_pos e, e, if_pos HDE.out.symm, HPE.out, HKE.out, HQE.out]
                            · rw [if_neg e, if_neg (fun h => e (by rw [← h, HDE.out])), hVal6.out g hg, Nat.add_zero]
                          · have := hMI.out.step hvn
                            rw [← HDE.out, ← HPE.out, ← HKE.out] at this
                            exact this
                      · go_simp
                        refine hK.out _ _ ⟨b8, b9, bG⟩ (fun hHeld => ?_)
                        clear hK K
                        try simp only [Act.put, List.setIfInBounds_toArray, List.set_cons_zero, List.set_cons_succ]
                        refine wpAnyH_ready (rs := [23]) (by kernel_rfl) (by simp) ?_
                        refine AllReadyH.cons (by simp only [List.getElem?_toArray, List.getElem?_cons_succ, List.getElem?_cons_zero]; rfl) (fun K hK => ?_) AllReadyH.nil
                        go_simp
                        refine hK.out _ _ ⟨b8, b9, bG⟩ (fun hHeld => ?_)
                        clear hK K
                        try simp only [Act.put, List.setIfInBounds_toArray, List.set_cons_zero, List.set_cons_succ]
                        refine wpAnyH_ready (rs := [26]) (by kernel_rfl) (by simp) ?_
                        refine AllReadyH.cons (by simp only [List.getElem?_toArray, List.getElem?_cons_succ, List.getElem?_cons_zero]; rfl) (fun K hK => ?_) AllReadyH.nil
                        go_simp
                        refine hK.out _ _ ⟨d8, d9, dG⟩ (fun hHeld => ?_)
                        clear hK K
                        try simp only [Act.put, List.setIfInBounds_toArray, List.set_cons_zero, List.set_cons_succ]
                        refine wpAnyH_take (i := 27) (v := ?_) (by simp only [List.getElem?_toArray, List.getElem?_cons_succ, List.getElem?_cons_zero]; rfl) (by kernel_rfl) (by kernel_rfl) (by kernel_rfl) (by exact fun _ _ _ h => h) (Or.inl ⟨by rfl, ?_⟩) (by assumption) ?_
                        rotate_left
                        · (intro w' hSw; (try dsimp only at hSw); go_simp <;> with_reducible rfl)
                        try simp only [Act.put, List.setIfInBounds_toArray, List.set_cons_zero, List.set_cons_succ]
                        refine wpAnyH_ready (rs := [28]) (by kernel_rfl) (by simp) ?_
                        refine AllReadyH.cons (by simp only [List.getElem?_toArray, List.getElem?_cons_succ, List.getElem?_cons_zero]; rfl) (fun K hK => ?_) AllReadyH.nil
                        go_simp
                        refine hK.out _ _ ⟨f8, f9, fG⟩ (fun hHeld => ?_)
                        clear hK K
                        try simp only [Act.put, List.setIfInBounds_toArray, List.set_cons_zero, List.set_cons_succ]
                        refine wpAnyH_done (by kernel_rfl) ?_ _
                        generalize hw45 : World.drew _ = w45
                        have HA45 : Hid (Arr w45 AL 3 n (nv (upd A (p + k) v))) := by
                          rw [← hw45]
                          have := (hA6.out.alloc (.cells #[.int .i64 (v : Nat)] 3)).set (p + k) (.int .i64 (v : Nat))
                          rw [upd_nv] at this
                          exact (this.other (a := ⟨LM, d, none⟩) (fun e => hne.2.2 e.symm) _).drew
                        have HM45 : Hid (Arr w45 LM 26 G (upd val d (.slice (some ⟨AL, p, none⟩) (k + 1) q))) := by
                          rw [← hw45]
                          exact (((hM6.out.alloc (.cells #[.int .i64 (v : Nat)] 3)).other (a := ⟨AL, p + k, none⟩) hne.2.2 _).set d _).drew
                        have HO45 : Hid (Only (fun x => x = LM ∨ x = AL) wr w45) := by
                          rw [← hw45]
                          exact (((Only.alloc wr _ (fun x => x = LM ∨ x = AL)).trans (Only.put1 (fun x => x = LM ∨ x = AL) _ AL (p + k) _ (Or.inr rfl))).trans (Only.put1 (fun x => x = LM ∨ x = AL) _ LM d _ (Or.inl rfl))).trans (Only.drewN _ 1 _)
                        clear hw45
                        go_wp2_with fail
                        go_roundg (n - (v + 1))
                        case measure => omega
                        case rel =>
                          refine ⟨v + 1, upd A (p + k) v, _, rfl, by omega, by go_num, HM45, ?_, HA45, ?_, hO6.out.trans HO45.out⟩
                          · intro g hg
                            simp only [upd, cnt]
                            by_cases e : g = d
                            · rw [if_pos e, e, if_pos HDE.out.symm, HPE.out, HKE.out, HQE.out]
                            · rw [if_neg e, if_neg (fun h => e (by rw [← h, HDE.out])), hVal6.out g hg, Nat.add_zero]
                          · have := hMI.out.step hvn
                            rw [← HDE.out, ← HPE.out, ← HKE.out] at this
                            exact this
                    · obtain rfl : n = v := by omega
                      clear al lm bk
                      go_wp2_with fail
                      go_end0
                      have al := HAL.out
                      have lm := HLM.out
                      have bk := HBK.out
                      refine ⟨rfl, grp, G, GA, LM, AL, F43.out, G43.out, ⟨val, fun i => ((A i : Nat) : Int), n, hM6.out, hA6.out, fun u hu => ?_⟩, HGR.out, O39.out.trans' hO6.out (fun i hi h => by omega), by omega, by omega, by omega⟩
                      refine ⟨_, _, pre grp n u, by rw [hVal6.out u hu, memb_len], Or.inr rfl, fun j hj => ?_, ?_⟩
                      · rw [memb_len] at hj
                        have h1 := hMI.out.at_ u j hj
                        simp only [h1]
                      · rw [memb_len]
                        have h1 := pre_mono grp n (u + 1) G hu
                        have h2 := HPALL.out
                        simp only [pre] at h1
                        omega
end Go.Proofs.Qxb6616383a
