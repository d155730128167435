import Derived.Test.Qxb6616383aReady
import Derived.Test.Qxb6616383aGroupNames
import Derived.Test.Qxb6616383aNumber
namespace Go.Proofs.Qxb6616383a
open Go.RowKit
open Plain
theorem Try.info22 : (Try.prog.info? 22).map (fun i => (i.zero, i.size, i.bytes)) = some (some (.slice none 0 0), 1, 24) := by kernel_rfl
set_option maxRecDepth 100000 in
set_option maxHeartbeats 4000000 in
theorem safe_any (w : World) (b : Nat) (ao : Option Addr) (kl kc : Nat) (kp : Nat → Bool) (M : Nat → Nat → (Nat → ByteArray) → (Nat → List Nat) → (Nat → Nat) → Prop)
    (hk : kl = 0 ∨ ∃ KB, ao = some ⟨KB, 0, none⟩ ∧ KB ≠ b ∧ Arr w KB 4 kl (bv kp))
    (h16 : Calls Try.prog 16 #[.pointer (some ⟨b, 0, none⟩)] w fun e w1 => e = .returned (.pointer (some ⟨b, 0, none⟩)) ∧ ∃ K F n G N D grp NB LD AD GB LM AM, Tables w1 K b F n G N D grp NB LD AD GB LM AM ∧ M n G N D grp ∧ Gr n D grp G ∧ n ≤ kl ∧ n ≤ 100000 ∧ (∀ u, (D u).length ≤ 100000) ∧ (∀ u x, x ∈ D u → x < n) ∧ Only (fun k => k = b) w w1 ∧ K ≤ w1.heap.size) :
    Calls Try.prog 14 #[.pointer (some ⟨b, 0, none⟩), .slice ao kl kc] w fun e w' => ∃ n G N D grp rv, e = .returned rv ∧ M n G N D grp ∧ Gr n D grp G ∧ (∀ u x, x ∈ D u → x < n) ∧ n ≤ 100000 ∧ Out w' w.heap.size rv N (memb grp n) (order D grp kp n G) none ∧ Only (fun k => k = b) w w' := by
  have HKP : Hid (kl = 0 ∨ ∃ KB, ao = some ⟨KB, 0, none⟩ ∧ KB ≠ b ∧ Arr w KB 4 kl (bv kp)) := hk
  clear hk
  go_enter Try.func14, Try.ntmps14
  go_upto_region 2 with (
    go_at_call 16
    refine h16.mono ?_
    rintro e w1 ⟨rfl, K, F, n, G, N, D, grp, NB, LD, AD, GB, LM, AM, aT, aM, aG, hnk, hn, aL, aX, aO, aK⟩
    have HT : Hid (Tables w1 K b F n G N D grp NB LD AD GB LM AM) := aT
    have HM : Hid (M n G N D grp) := aM
    have HGR : Hid (Gr n D grp G) := aG
    have HDL : Hid (∀ u, (D u).length ≤ 100000) := aL
    have HDX : Hid (∀ u x, x ∈ D u → x < n) := aX
    have HO1 : Hid (Only (fun k => k = b) w w1) := aO
    have HK : Hid (K ≤ w1.heap.size) := aK
    clear aT aM aG aL aX aO aK)
  have hGn : G ≤ n := HGR.out.le
  have c9 := HT.out.g.cell (i := 9) (by omega)
  rw [HT.out.f9] at c9
  go_upto_region 3 with (
    refine make_arr w1 rfl _ _ 26 rfl 3 (.int .i64 0) 8 Try.underlying26 Try.info3 rfl .i64 .i64 _ _ G rfl rfl rfl rfl (by omega) (by unfold maxLen; omega) ?_
    intro w2 hA2 hN2)
  have HT2 : Hid (Tables w2 K b F n G N D grp NB LD AD GB LM AM) := HT.out.below (hN2.out.below.mono HK.out)
  have c6 := HT2.out.g.cell (i := 6) (by omega)
  rw [HT2.out.f6] at c6
  obtain ⟨W, hW⟩ : ∃ W, W = w1.heap.size := ⟨_, rfl⟩
  have HWE : Hid (W = w1.heap.size) := hW
  rw [← hW] at hA2 ⊢
  clear hW
  have HKC : Hid (∀ {wr : World} {v : Nat}, Below w1.heap.size w1 wr → v < n → ∃ KB, ao = some ⟨KB, 0, none⟩ ∧ wr.cell? ⟨KB, v, none⟩ = some (.bool (kp v))) := by
    intro wr v hB hv
    rcases HKP.out with h | ⟨KB, e, hne, hA⟩
    · omega
    · have h1 : Arr w1 KB 4 kl (bv kp) := hA.only HO1.out hne
      exact ⟨KB, e, (h1.below hB h1.lt).cell (by omega)⟩
  go_wp2_with fail
  go_loopg [33] n (fun z c33 wr => ∃ (v : Nat), z = n - v ∧ v ≤ n ∧ c33 = .int .i64 v ∧ Hid (Arr wr W 3 G (iv (wts D grp kp v))) ∧ Hid (∀ g, 0 ≤ wts D grp kp v g ∧ wts D grp kp v g ≤ 100000 * (v : Int)) ∧ Hid (Below w1.heap.size w1 wr))
  case atStart => exact ⟨0, by omega, by omega, rfl, hA2, fun g => by simp [wts], hN2.out.below⟩
  case round =>
    obtain ⟨v, rfl, hv, rfl, hA, hbd, hB⟩ := hrel
    have HTr : Hid (Tables wr K b F n G N D grp NB LD AD GB LM AM) := HT.out.below (hB.out.mono HK.out)
    by_cases hvn : v < n
    · obtain ⟨ld, lc, lo, l1, l2, l3⟩ := HTr.out.hD.at_ hvn
      obtain ⟨KB, rfl, ck⟩ := HKC.out hB.out hvn
      have hlv := HDL.out v
      obtain ⟨dl, hdl⟩ : ∃ dl, dl = (D v).length := ⟨_, rfl⟩
      rw [← hdl] at l1 l2 l3 hlv
      have HDLv : Hid (dl = (D v).length) := hdl
      have HL2 : Hid (dl = 0 ∨ ld = some ⟨AD, lo, none⟩) := l2
      have HL3 : Hid (∀ j, j < dl → wr.cell? ⟨AD, lo + j, none⟩ = some (.int .i64 (((D v).getD j 0 : Nat) : Int))) := l3
      clear hdl l2 l3
      cases hkv : kp v with
      | false =>
        rw [hkv] at ck
        have HKV : Hid (kp v = false) := hkv
        clear hkv
        go_wp2_with fail
        go_roundg (n - (v + 1))
        case measure => omega
        case rel =>
          have ew : wts D grp kp (v + 1) = wts D grp kp v := by simp only [wts]; rw [if_neg (by rw [HKV.out]; decide)]
          refine ⟨v + 1, rfl, by omega, by go_num, ?_, ?_, hB⟩
          · rw [ew]; exact hA
          · rw [ew]; exact fun g => ⟨(hbd.out g).1, by have := (hbd.out g).2; omega⟩
      | true =>
        rw [hkv] at ck
        have HKV : Hid (kp v = true) := hkv
        clear hkv
        go_upto_region 8 with fail
        go_loopg [45] dl (fun z c45 w3 => ∃ (j : Nat) (wt : Nat → Int), z = dl - j ∧ j ≤ dl ∧ c45 = .int .i64 j ∧ Hid (wt = ((D v).take j).foldl (wstep grp v) (wts D grp kp v)) ∧ Hid (Arr w3 W 3 G (iv wt)) ∧ Hid (∀ g, 0 ≤ wt g ∧ wt g ≤ 100000 * (v : Int) + j) ∧ Hid (Below w1.heap.size w1 w3) ∧ Hid (Only (fun k => k = W) wr w3))
        case atStart => exact ⟨0, _, by omega, by omega, rfl, (by simp : _ = _), hA, fun g => by have := hbd.out g; omega, hB, Only.refl _ _⟩
        case round =>
          obtain ⟨j, wt, rfl, hj, rfl, hwt, hA3, hbd3, hB3, hO3⟩ := hrel
          by_cases hjd : j < dl
          · obtain rfl : ld = some ⟨AD, lo, none⟩ := HL2.out.resolve_left (by omega)
            have HT3 : Hid (Tables wr K b F n G N D grp NB LD AD GB LM AM) := HT.out.below (hB3.out.mono HK.out)
            have cx : wr.cell? ⟨AD, lo + j, none⟩ = some (.int .i64 (((D v).getD j 0 : Nat) : Int)) := by
              have h1 := HL3.out j hjd
              have h2 := HT.out.lt
              have h3 := HK.out
              have h4 := HWE.out
              rw [← h1]
              simp only [World.cell?]
              rw [hO3.out.block AD (World.block_lt_of_cell? _ _ h1) (by omega)]
            obtain ⟨x, hx⟩ : ∃ x, x = (D v).getD j 0 := ⟨_, rfl⟩
            rw [← hx] at cx
            have hxn : x < n := HDX.out v x (by
              rw [hx, List.getD_eq_getElem?_getD, List.getElem?_eq_getElem (by rw [← HDLv.out]; exact hjd)]
              exact List.getElem_mem _)
            have HX : Hid (x = (D v).getD j 0) := hx
            clear hx
            have c8 := HT3.out.g.cell (i := 8) (by omega)
            rw [HT3.out.f8] at c8
            have cg := HT3.out.hG.cell hxn
            have cv := HT3.out.hG.cell hvn
            rw [show nv grp x = .int .i64 ((grp x : Nat) : Int) from rfl] at cg
            rw [show nv grp v = .int .i64 ((grp v : Nat) : Int) from rfl] at cv
            have hgx : grp x < G := HGR.out.lt x hxn
            have cw := hA3.out.cell hgx
            rw [show iv wt (grp x) = .int .i64 (wt (grp x)) from rfl] at cw
            have fw := hA3.out.free (grp x)
            have hb1 := hbd3.out (grp x)
            obtain ⟨y, hy⟩ : ∃ y, y = grp x := ⟨_, rfl⟩
            obtain ⟨u, hu⟩ : ∃ u, u = grp v := ⟨_, rfl⟩
            rw [← hy] at cg cw fw hgx hb1
            rw [← hu] at cv
            have HY : Hid (y = grp x) := hy
            have HU : Hid (u = grp v) := hu
            clear hy hu
            have estep : Hid (((D v).take (j + 1)).foldl (wstep grp v) (wts D grp kp v) = wstep grp v wt x) := by
              show _ = _
              rw [foldl_take_succ (by rw [← HDLv.out]; exact hjd), ← hwt.out, ← HX.out]
            by_cases hyu : y = u
            · have e0 : (((y : Nat) : Int) != ((u : Nat) : Int)) = false := by rw [hyu]; simp
              have HYU : Hid (y = u) := hyu
              clear hyu
              go_wp2_with (go_quiet (fail))
              go_roundg (dl - (j + 1))
              case measure => omega
              case rel =>
                have e2 : wstep grp v wt x = wt := by unfold wstep; rw [if_pos (by rw [← HY.out, ← HU.out]; exact HYU.out)]
                exact ⟨j + 1, wt, rfl, by omega, by go_num, by show _ = _; rw [estep.out, e2], hA3.out.drewN _, fun g => by have := hbd3.out g; omega, ⟨hB3.out.os, hB3.out.tape, hB3.out.output, hB3.out.size, hB3.out.block⟩, hO3.out.trans (Only.drewN _ _ _)⟩
            · have e0 : (((y : Nat) : Int) != ((u : Nat) : Int)) = true := by simp; omega
              have HYU : Hid (y ≠ u) := hyu
              clear hyu
              go_wp2_with (go_quiet (fail))
              go_roundg (dl - (j + 1))
              case measure => omega
              case rel =>
                have e2 : wstep grp v wt x = upd wt y (wt y + 1) := by unfold wstep; rw [if_neg (by rw [← HY.out, ← HU.out]; exact HYU.out), ← HY.out]
                have HO4 : ∀ q, Only (fun k => k = W) wr ((wr.drewN q).setCell ⟨W, y, none⟩ (.int .i64 (wt y + 1))) := fun q => (Only.drewN wr q _).trans ((Only.setCell _ _ _).weak (fun i h => h))
                refine ⟨j + 1, upd wt y (wt y + 1), rfl, by omega, by go_num, by show _ = _; rw [estep.out, e2], ?_, ?_, ?_, hO3.out.trans (HO4 _)⟩
                · have key : ∀ q, Arr ((wr.drewN q).setCell ⟨W, y, none⟩ (.int .i64 (wt y + 1))) W 3 G (iv (upd wt y (wt y + 1))) := fun q => by
                    have := (hA3.out.drewN q).set y (.int .i64 (wt y + 1))
                    rw [upd_iv] at this
                    exact this
                  exact key _
                · rw [← e2]
                  intro g
                  have := wstep_bound (grp := grp) (v := v) (x := x) hbd3.out g
                  omega
                · exact hB3.out.trans ((HO4 _).below hB3.out.size (fun k hk e => by have := HWE.out; omega))
          · obtain rfl : dl = j := by omega
            go_wp2_with fail
            go_roundg (n - (v + 1))
            case measure => omega
            case rel =>
              have ew : wts D grp kp (v + 1) = wt := by
                rw [hwt.out, List.take_of_length_le (by rw [← HDLv.out]; exact Nat.le_refl _)]
                simp only [wts]
                rw [if_pos HKV.out]
              refine ⟨v + 1, rfl, by omega, by go_num, ?_, ?_, hB3⟩
              · rw [ew]; exact hA3
              · rw [ew]; exact fun g => ⟨(hbd3.out g).1, by have := (hbd3.out g).2; omega⟩
    · obtain rfl : n = v := by omega
      go_upto_region 15 with fail
      obtain ⟨w4, hw4⟩ : ∃ w4 : World, w4 = wr.alloc (.cells #[.slice none 0 0] 62) := ⟨_, rfl⟩
      rw [← hw4]
      obtain ⟨R, hR⟩ : ∃ R, R = wr.heap.size := ⟨_, rfl⟩
      rw [← hR]
      have HWR : Hid (W < R) := by show _ < _; rw [hR]; exact hA.out.lt
      have HB4 : Hid (Below w1.heap.size w1 w4) := by rw [hw4]; exact hB.out.trans ((Only.alloc wr _ (fun _ => False)).below hB.out.size (fun _ _ => id))
      have HQ4 : Hid (HeapAt w4 R (.slice none 0 0) 0 (fun _ => 0)) := by rw [hw4, hR]; exact ⟨Arr.one _ _ _, Own.nil _ _ _ _⟩
      have HW4 : Hid (Arr w4 W 3 G (iv (wts D grp kp n))) := by rw [hw4]; exact hA.out.alloc _
      have HT4 : Hid (Tables w4 K b F n G N D grp NB LD AD GB LM AM) := HT.out.below (HB4.out.mono HK.out)
      have c94 := HT4.out.g.cell (i := 9) (by omega)
      rw [HT4.out.f9] at c94
      clear hw4 hR
      go_wp2_with fail
      go_loopg [83] G (fun z c83 wr => ∃ (c k : Nat) (v : Value) (q : Nat → Nat), z = G - c ∧ c ≤ G ∧ k ≤ c ∧ c83 = .int .i64 c ∧ Hid (Arr wr W 3 G (iv (wts D grp kp n))) ∧ Hid (HeapAt wr R v k q) ∧ Hid (Inj k q) ∧ Hid (∀ x, In k q x ↔ rd0 D grp kp n c x ≠ 0) ∧ Hid (k + unv (rd0 D grp kp n c) G = G) ∧ Hid (Below w1.heap.size w1 wr))
      case atStart =>
        have e0 : rd0 D grp kp n 0 = fun _ => 0 := by funext g; simp [rd0]
        exact ⟨0, 0, _, _, by omega, by omega, by omega, rfl, HW4, HQ4, fun i j hi => by omega, fun x => by
          constructor
          · rintro ⟨i, hi, _⟩; omega
          · intro h; rw [e0] at h; exact absurd rfl h, by show _ = _; rw [e0, unv_zero]; omega, HB4⟩
      case round =>
        obtain ⟨c, k, v, q, rfl, hc, hkc, rfl, hA5, hH5, hI5, hM5, hC5, hB5⟩ := hrel
        have HT5 : Hid (Tables wr K b F n G N D grp NB LD AD GB LM AM) := HT.out.below (hB5.out.mono HK.out)
        by_cases hcG : c < G
        · obtain ⟨u0, hu0, e0, e4⟩ := HGR.out.onto c hcG
          have hml : 0 < (memb grp n c).length := List.length_pos_of_mem (mem_memb.2 ⟨hu0, e0⟩)
          obtain ⟨ld, lc, lo, l1, l2, l3⟩ := HT5.out.hM.at_ hcG
          have l0 := l3 0 hml
          rw [Nat.add_zero] at l0
          obtain ⟨x, hx⟩ : ∃ x, x = (memb grp n c).getD 0 0 := ⟨_, rfl⟩
          have hxn : x < n := by rw [hx]; exact (memb_get hml).1
          rw [← hx] at l0
          obtain rfl : ld = some ⟨AM, lo, none⟩ := l2.resolve_left (by omega)
          obtain ⟨KB, rfl, ck⟩ := HKC.out hB5.out hxn
          have cw := hA5.out.cell hcG
          rw [show iv (wts D grp kp n) c = .int .i64 (wts D grp kp n c) from rfl] at cw
          obtain ⟨ml, hml'⟩ : ∃ ml, ml = (memb grp n c).length := ⟨_, rfl⟩
          obtain ⟨wc, hwc⟩ : ∃ wc, wc = wts D grp kp n c := ⟨_, rfl⟩
          rw [← hml'] at l1 hml
          rw [← hwc] at cw
          have HRD : Hid (rdy0 D grp kp n c = (kp x && wc == 0)) := by show _ = _; unfold rdy0; rw [hx, hwc]
          clear hml' hx l2 l3 hwc e4 e0 hu0
          have key0 : Hid (rdy0 D grp kp n c = false → rd0 D grp kp n (c + 1) = rd0 D grp kp n c) := fun h => by rw [rd0_succ, if_neg (by rw [h]; decide)]
          cases hkx : kp x with
          | false =>
            rw [hkx] at ck
            have HR0 : Hid (rdy0 D grp kp n c = false) := by show _ = _; rw [HRD.out, hkx]; rfl
            clear hkx
            go_wp2_with fail
            go_roundg (G - (c + 1))
            case measure => omega
            case rel =>
              have e := key0.out HR0.out
              refine ⟨c + 1, k, v, q, rfl, by omega, by omega, by go_num, hA5, hH5, hI5, ?_, ?_, hB5⟩
              · rw [e]; exact hM5
              · rw [e]; exact hC5
          | true =>
            rw [hkx] at ck
            by_cases hw0 : wc = 0
            · have e1 : (wc == 0) = true := by rw [hw0]; rfl
              have HR0 : Hid (rdy0 D grp kp n c = true) := by show _ = _; rw [HRD.out, hkx, e1]; rfl
              clear hkx hw0
              have cR := hH5.out.box.cell (i := 0) (by omega)
              have fR := hH5.out.box.free 0
              go_wp2_with (
                refine app_one' _ rfl _ _ 62 rfl (R + 1) 3 (.int .i64 0) 8 Try.underlying62 Try.info3 rfl v k (nv q) rfl (Own.alloc hH5.out.own _) _ 1 (.int .i64 (c : Nat)) rfl (cell_new _ _ _) rfl (by unfold maxLen; omega) (by omega) (by have := hH5.out.box.lt; simp; omega) ?_
                intro v' w6 hO6 hG6 hM6
                obtain ⟨g6, c6, rfl⟩ := hO6.out.some_
                have HBX : Hid (Arr w6 R 62 1 (fun _ => v)) := (hH5.out.box.alloc _).grown hG6.out (fun h => by have := hH5.out.own.lt R h.symm; omega)
                have fR6 := HBX.out.free 0
                have cR6 := HBX.out.cell (i := 0) (by omega))
              go_roundg (G - (c + 1))
              case measure => omega
              case rel =>
                have hnot : ¬ In k q c := fun hi => by
                  have h1 := (hM5.out c).1 hi
                  simp [rd0] at h1
                have h0 : rd0 D grp kp n c c = 0 := by simp [rd0]
                have HO6 : Only (fun i => i = R ∨ v.ownBlock = some i) wr (w6.setCell ⟨R, 0, none⟩ (.slice (some ⟨g6, 0, none⟩) (k + 1) c6)) := ((Only.alloc wr _ _).trans' (Only.grown hG6.out) (fun i _ h => Or.inr h.symm)).trans ((Only.setCell _ _ _).weak (fun i h => Or.inl h))
                have hvb : ∀ i, v.ownBlock = some i → R < i := fun i hi => by have := hH5.out.own.lt i hi; omega
                have hwr := HWR.out
                have hwe := HWE.out
                have er : rd0 D grp kp n (c + 1) = upd (rd0 D grp kp n c) c 1 := by rw [rd0_succ, if_pos HR0.out]
                refine ⟨c + 1, k + 1, .slice (some ⟨g6, 0, none⟩) (k + 1) c6, upd q k c, rfl, by omega, by omega, by go_num, ?_, ⟨?_, ?_⟩, push_inj hI5.out hnot, ?_, ?_, ?_⟩
                · refine hA5.out.only HO6 ?_
                  rintro (h | h)
                  · omega
                  · have := hvb _ h; omega
                · exact HBX.out.set 0 _
                · have := hO6.out
                  rw [upd_nv] at this
                  exact this.setCell (by simp [Value.ownBlock]; have := (hO6.out.lt g6 rfl).1; omega) _
                · intro y
                  rw [push_mem, hM5.out y, er]
                  simp only [upd]
                  by_cases ey : y = c
                  · simp [ey]
                  · simp [ey]
                · have h1 := unv_upd (ord := rd0 D grp kp n c) (x := c) (z := 1) (by omega) h0 G
                  rw [if_pos hcG] at h1
                  have h2 := hC5.out
                  show _ = _
                  rw [er]; omega
                · refine hB5.out.trans (HO6.below hB5.out.size (fun i hi => ?_))
                  rintro (h | h)
                  · omega
                  · have := hvb _ h; omega
            · have e1 : (wc == 0) = false := by rw [beq_eq_false_iff_ne]; exact hw0
              have HR0 : Hid (rdy0 D grp kp n c = false) := by show _ = _; rw [HRD.out, hkx, e1]; rfl
              clear hkx hw0
              go_wp2_with fail
              go_roundg (G - (c + 1))
              case measure => omega
              case rel =>
                have e := key0.out HR0.out
                refine ⟨c + 1, k, v, q, rfl, by omega, by omega, by go_num, hA5, hH5, hI5, ?_, ?_, hB5⟩
                · rw [e]; exact hM5
                · rw [e]; exact hC5
        · obtain rfl : G = c := by omega
          have HN0 : Hid (∀ w', Own w' (R + 1) 22 (.slice none 0 0) 0 (fun _ => .slice none 0 0)) := fun w' => Own.nil _ _ _ _
          go_upto_region 23 with (
            go_at_call 17
            refine (init_any wr R k v q hH5.out (by omega)).mono ?_
            rintro e w7 ⟨rfl, q', a1, a2, a3, a4, a5⟩
            have A1 : Hid (HeapAt w7 R v k q') := a1
            have A2 : Hid (Mix k q q') := a2
            have A3 : Hid (HP k q' 0) := a3
            have A4 : Hid (Only (fun i => v.ownBlock = some i) wr w7) := a4
            clear a1 a2 a3 a4 a5)
          have HQ7 : Hid (QAt w7 W R G v k q' (wts D grp kp n, rd0 D grp kp n G) (fun _ => 0) 0) := by
            have hvb : ∀ i, v.ownBlock = some i → R < i := fun i hi => by have := hH5.out.own.lt i hi; omega
            have hwr := HWR.out
            refine ⟨hA5.out.only A4.out (fun h => by have := hvb _ h; omega), A1.out, A3.out, A2.out.inj hI5.out, fun x => (A2.out.mem x).trans (hM5.out x), hC5.out, KI.start D grp kp n G, fun g => by have := (hbd.out g).1; simp only; omega, fun g => by have := (hbd.out g).2; simp only; omega, HWR.out⟩
          have HB7 : Hid (Below w1.heap.size w1 w7) := hB5.out.trans (A4.out.below hB5.out.size (fun i hi h => by
            have := hH5.out.own.lt i h
            have := HWR.out
            have := HWE.out
            omega))
          clear A1 A2 A3 A4 hA5 hH5 hI5 hM5 hC5 HQ4 HW4 hA hbd
          have HOUT0 : Hid (Out w7 (R + 1) (.slice none 0 0) N (memb grp n) [] v.ownBlock) := ⟨_, fun _ => 0, HN0.out w7, fun kk h => (by cases h), fun i hi => by simp at hi⟩
          have HORD0 : Hid (order D grp kp n G = [] ++ run (outs D grp n) grp kp G G (wts D grp kp n) (rd0 D grp kp n G)) := rfl
          go_loopg [13] G (fun z c13 wr => ∃ (dn : Nat → Nat) (s : (Nat → Int) × (Nat → Nat)) (k : Nat) (q : Nat → Nat) (v gv : Value) (L : List Nat), z = unv dn G ∧ c13 = gv ∧ L.length + unv dn G = G ∧ Hid (QAt wr W R G v k q s dn ((G - unv dn G) * 10000000000)) ∧ Hid (Out wr (R + 1) gv N (memb grp n) L v.ownBlock) ∧ Hid (order D grp kp n G = L ++ run (outs D grp n) grp kp G (unv dn G) s.1 s.2) ∧ Hid (Below w1.heap.size w1 wr))
          case atStart =>
            have eu : unv (fun _ => 0) G = G := unv_zero G
            refine ⟨fun _ => 0, (wts D grp kp n, rd0 D grp kp n G), k, q', v, _, [], eu.symm, rfl, by rw [eu]; simp, ?_, HOUT0, ?_, HB7⟩
            · rw [eu]; exact HQ7.out.weaker (by omega)
            · rw [eu]; exact HORD0
          case round =>
            obtain ⟨dn, s, k, q, v, gv, L, rfl, hgv, hLd, hQ, hOut, hOrd, hB⟩ := hrel
            obtain rfl := hgv.symm
            have cR := hQ.out.hH.box.cell (i := 0) (by omega)
            cases k with
            | zero =>
              obtain ⟨ao', c', rfl⟩ := hQ.out.hH.own.shape
              go_wp2_with (
                go_at_call 18
                refine (len_any wr _ 0 c').mono ?_
                rintro e w' ⟨rfl, hw⟩
                obtain rfl := hw.symm)
              go_ret
              have e1 : order D grp kp n G = L := by rw [hOrd.out, run_none hQ.out.none_ready, List.append_nil]
              have h1 := HWR.out
              have h2 := HWE.out
              have h3 := HO1.out.size
              refine ⟨n, G, N, D, grp, gv, rfl, HM.out, HGR.out, HDX.out, hn, ?_, HO1.out.trans (Only.belowAll hB.out _)⟩
              rw [e1]
              exact (hOut.out.moved (Or.inr (fun k hk => by cases hk))).mono (by omega)
            | succ k =>
              obtain ⟨g, cq, rfl⟩ := hQ.out.hH.own.some_
              have hkG : k + 1 ≤ G := by have := hQ.out.cnt; omega
              obtain ⟨val, gb, o1, o2, o3⟩ := hOut.out
              have O1 : Hid (Own wr (R + 1) 22 gv L.length val) := o1
              have O2 : Hid (∀ kk, gv.ownBlock = some kk → (Value.slice (some ⟨g, 0, none⟩) (k + 1) cq).ownBlock ≠ some kk) := o2
              have O3 : Hid (∀ i, i < L.length → R + 1 ≤ gb i ∧ gv.ownBlock ≠ some (gb i) ∧ (Value.slice (some ⟨g, 0, none⟩) (k + 1) cq).ownBlock ≠ some (gb i) ∧ val i = .slice (some ⟨gb i, 0, none⟩) (memb grp n (L.getD i 0)).length (memb grp n (L.getD i 0)).length ∧ Arr wr (gb i) 9 (memb grp n (L.getD i 0)).length (sv (fun j => N ((memb grp n (L.getD i 0)).getD j 0)))) := o3
              clear o1 o2 o3
              have hta := fun w => ta3 (q 0 : Nat) w
              go_upto_region 25 with (first
                | (
                  go_at_call 18
                  refine (len_any wr _ (k + 1) cq).mono ?_
                  rintro e w' ⟨rfl, hw⟩
                  obtain rfl := hw.symm)
                | (
                  go_at_call 19
                  refine (hpop_any wr R g k cq q hQ.out.hH (by omega) hQ.out.hp).mono ?_
                  rintro e w8 ⟨rfl, q2, a1, a2, a3, a4, a5⟩
                  have A1 : Hid (HeapAt w8 R (.slice (some ⟨g, 0, none⟩) k cq) k q2) := a1
                  have A2 : Hid (Mix k (swp q 0 k) q2) := a2
                  have A3 : Hid (HP k q2 0) := a3
                  have A4 : Hid (Only (fun kk => kk = R ∨ kk = g) wr w8) := a4
                  have A5 : Hid (w8.heap.size = wr.heap.size) := a5
                  clear a1 a2 a3 a4 a5))
              have h1 := HWR.out
              have h2 := HWE.out
              have A4' : Hid (Only (fun kk => kk = R ∨ (Value.slice (some ⟨g, 0, none⟩) (k + 1) cq).ownBlock = some kk) wr w8) := A4.out.weak (fun i h => h.imp id (fun e => by rw [e]; rfl))
              obtain ⟨p1, p2, p3, p4⟩ := hQ.out.pop A1.out A2.out A3.out A4'.out
              obtain ⟨c, hc⟩ : ∃ c, c = q 0 := ⟨_, rfl⟩
              rw [← hc] at p1 p2 p3 p4 ⊢
              have hgR : R < g := (hQ.out.apart g rfl).1
              have HB8 : Hid (Below w1.heap.size w1 w8) := hB.out.trans (A4.out.below hB.out.size (fun i hi h => by omega))
              have HT8 : Hid (Tables w8 K b F n G N D grp NB LD AD GB LM AM) := HT.out.below (HB8.out.mono HK.out)
              have hsz8 := A5.out
              have O1' : Hid (Own w8 (R + 1) 22 gv L.length val) := O1.out.only A4'.out (fun kk hk h => by
                rcases h with h | h
                · have := (O1.out.lt kk hk).1; omega
                · exact O2.out kk hk h)
              have O3' : Hid (∀ i, i < L.length → R + 1 ≤ gb i ∧ gv.ownBlock ≠ some (gb i) ∧ (Value.slice (some ⟨g, 0, none⟩) k cq).ownBlock ≠ some (gb i) ∧ val i = .slice (some ⟨gb i, 0, none⟩) (memb grp n (L.getD i 0)).length (memb grp n (L.getD i 0)).length ∧ Arr w8 (gb i) 9 (memb grp n (L.getD i 0)).length (sv (fun j => N ((memb grp n (L.getD i 0)).getD j 0)))) := fun i hi => by
                obtain ⟨a, b', c', d, e⟩ := O3.out i hi
                refine ⟨a, b', c', d, e.only A4'.out ?_⟩
                rintro (h | h)
                · omega
                · exact c' h
              have HRUN : Hid (run (outs D grp n) grp kp G (unv dn G) s.1 s.2 = c :: run (outs D grp n) grp kp G (unv (upd dn c 1) G) ((outs D grp n c).foldl (est grp kp c) (s.1, upd s.2 c 0)).1 ((outs D grp n c).foldl (est grp kp c) (s.1, upd s.2 c 0)).2) := by
                have hd := (hQ.out.ki.r1 c p2).2.1
                have hu := unv_upd (ord := dn) (x := c) (z := 1) (by omega) hd G
                rw [if_pos p3] at hu
                show _ = _
                rw [← hu]
                exact run_some p2 p3 p4
              have HUN : Hid (unv (upd dn c 1) G + 1 = unv dn G) := by
                have hd := (hQ.out.ki.r1 c p2).2.1
                have hu := unv_upd (ord := dn) (x := c) (z := 1) (by omega) hd G
                rw [if_pos p3] at hu
                exact hu
              have hcG : c < G := p3
              have HQ8 : Hid (QAt w8 W R G (.slice (some ⟨g, 0, none⟩) k cq) k q2 (s.1, upd s.2 c 0) (upd dn c 1) ((G - unv dn G) * 10000000000)) := p1
              have hK8 : K ≤ w8.heap.size := by have := HK.out; have := HB8.out.size; omega
              have hR8 : R + 1 ≤ w8.heap.size := by have := HQ8.out.hH.box.lt; omega
              have hg8 : g < w8.heap.size := by have := (hQ.out.apart g rfl).2; omega
              have hLG : L.length ≤ 100000 := by omega
              clear p1 p2 p3 p4 hta A1 A2 A3 hc h1 h2 hsz8
              go_upto_region 26 with (first
                | (
                  go_at_call 20
                  refine (gnames_any w8 K b F n G N D grp NB LD AD GB LM AM HT8.out hn c hcG hK8).mono ?_
                  rintro e w9 ⟨rfl, a1, a2⟩
                  have B1 : Hid (Arr w9 w8.heap.size 9 (memb grp n c).length (sv (fun i => N ((memb grp n c).getD i 0)))) := a1
                  have B2 : Hid (New w8 w9) := a2
                  clear a1 a2)
                | (
                  refine app_one' _ rfl _ _ 32 rfl (R + 1) 22 (.slice none 0 0) 24 Try.underlying32 Try.info22 rfl gv L.length val rfl (Own.alloc (O1'.out.only (Only.new B2.out (fun _ => False)) (fun _ _ => id)) _) _ 1 _ rfl (cell_new _ _ _) rfl (by unfold maxLen; omega) (by omega) (by have := B2.out.lt; simp; omega) ?_
                  intro gv' w10 hO10 hG10 hM10))
              have HOUT10 : Hid (Out w10 (R + 1) gv' N (memb grp n) (L ++ [c]) (Value.slice (some ⟨g, 0, none⟩) k cq).ownBlock) := Out.push O1'.out O2.out O3'.out B2.out B1.out (fun i hi => by cases hi; exact hg8) hR8 hO10.out hG10.out hM10.out
              have HON : Hid (Only (fun i => gv.ownBlock = some i) w8 w10) := ((Only.new B2.out (fun i => gv.ownBlock = some i)).trans (Only.alloc w9 _ _)).trans' (Only.grown hG10.out) (fun i _ h => h.symm)
              have HQ10 : Hid (QAt w10 W R G (.slice (some ⟨g, 0, none⟩) k cq) k q2 (s.1, upd s.2 c 0) (upd dn c 1) ((G - unv dn G) * 10000000000)) := HQ8.out.only HON.out (fun h => by have := (O1.out.lt _ h).1; have := HWR.out; omega) (fun h => by have := (O1.out.lt _ h).1; omega) (fun bb hb h => O2.out bb h hb)
              have HB10 : Hid (Below w1.heap.size w1 w10) := HB8.out.trans (HON.out.below HB8.out.size (fun i hi h => by have := (O1.out.lt _ h).1; have := HWR.out; have := HWE.out; omega))
              have HT10 : Hid (Tables w10 K b F n G N D grp NB LD AD GB LM AM) := HT.out.below (HB10.out.mono HK.out)
              have c910 := HT10.out.g.cell (i := 9) (by omega)
              rw [HT10.out.f9] at c910
              obtain ⟨ld, lc, lo, l1, l2, l3⟩ := HT10.out.hM.at_ hcG
              have hmle := memb_le grp n c
              obtain ⟨ml, hml⟩ : ∃ ml, ml = (memb grp n c).length := ⟨_, rfl⟩
              rw [← hml] at l1 l2 l3 hmle
              have HML : Hid (ml = (memb grp n c).length) := hml
              have HL2 : Hid (ml = 0 ∨ ld = some ⟨AM, lo, none⟩) := l2
              have HL3 : Hid (∀ {wr : World}, Below w1.heap.size w1 wr → ∀ j, j < ml → wr.cell? ⟨AM, lo + j, none⟩ = some (.int .i64 (((memb grp n c).getD j 0 : Nat) : Int))) := by
                intro wr hB' j hj
                have h1 := l3 j hj
                have h2 := HT.out.lt
                have h3 := HK.out
                rw [← h1]
                simp only [World.cell?]
                rw [hB'.block AM (by omega), HB10.out.block AM (by omega)]
              have HLOB : Hid ((G - unv dn G) * 10000000000 ≤ 1000000000000000) := by show _ ≤ _; omega
              obtain ⟨lo0, hlo0⟩ : ∃ lo0, lo0 = (G - unv dn G) * 10000000000 := ⟨_, rfl⟩
              have HLO : Hid (lo0 = (G - unv dn G) * 10000000000) := hlo0
              have hlob : lo0 ≤ 1000000000000000 := by rw [hlo0]; exact HLOB.out
              rw [← hlo0] at HQ10
              obtain ⟨s0, hs0⟩ : ∃ s0 : (Nat → Int) × (Nat → Nat), s0 = (s.1, upd s.2 c 0) := ⟨_, rfl⟩
              rw [← hs0] at HQ10 HRUN
              clear hml l2 l3 hO10 hG10 hM10 HON HQ8 O1 O2 O3 O1' O3' B1 B2 A4 A4' hQ hOut HOUT0 HORD0 hlo0 HLOB hs0 hR8 hg8 hK8 HT8 HB8
              go_wp2_with fail
              go_loopg [128] ml (fun z c128 wr => ∃ (i k : Nat) (v : Value) (q : Nat → Nat) (t : (Nat → Int) × (Nat → Nat)), z = ml - i ∧ i ≤ ml ∧ c128 = .int .i64 i ∧ Hid (t = (((memb grp n c).take i).flatMap D).foldl (est grp kp c) s0) ∧ Hid (QAt wr W R G v k q t (upd dn c 1) (lo0 + i * 100000)) ∧ Hid (Out wr (R + 1) gv' N (memb grp n) (L ++ [c]) v.ownBlock) ∧ Hid (Below w1.heap.size w1 wr))
              case atStart => exact ⟨0, k, _, q2, s0, by omega, by omega, rfl, (by simp : s0 = _), HQ10.out.weaker (by omega), HOUT10, HB10⟩
              case round =>
                obtain ⟨i, k, v, q, t, rfl, him, rfl, ht, hQ, hOut, hB⟩ := hrel
                by_cases him2 : i < ml
                · obtain rfl : ld = some ⟨AM, lo, none⟩ := HL2.out.resolve_left (by omega)
                  have cx := HL3.out hB.out i him2
                  obtain ⟨x, hx⟩ : ∃ x, x = (memb grp n c).getD i 0 := ⟨_, rfl⟩
                  rw [← hx] at cx
                  have hxn : x < n := by rw [hx]; exact (memb_get (by rw [← HML.out]; exact him2)).1
                  have HX : Hid (x = (memb grp n c).getD i 0) := hx
                  have HT11 : Hid (Tables wr K b F n G N D grp NB LD AD GB LM AM) := HT.out.below (hB.out.mono HK.out)
                  have c6 := HT11.out.g.cell (i := 6) (by omega)
                  rw [HT11.out.f6] at c6
                  obtain ⟨ld2, lc2, lo2, m1, m2, m3⟩ := HT11.out.hD.at_ hxn
                  have hdx := HDL.out x
                  obtain ⟨dl, hdl⟩ : ∃ dl, dl = (D x).length := ⟨_, rfl⟩
                  rw [← hdl] at m1 m2 m3 hdx
                  have HDLx : Hid (dl = (D x).length) := hdl
                  have HM2 : Hid (dl = 0 ∨ ld2 = some ⟨AD, lo2, none⟩) := m2
                  have HM3 : Hid (∀ {w' : World}, Below w1.heap.size w1 w' → ∀ j, j < dl → w'.cell? ⟨AD, lo2 + j, none⟩ = some (.int .i64 (((D x).getD j 0 : Nat) : Int))) := by
                    intro w' hB' j hj
                    have h1 := m3 j hj
                    have h2 := HT.out.lt
                    have h3 := HK.out
                    rw [← h1]
                    simp only [World.cell?]
                    rw [hB'.block AD (by omega), hB.out.block AD (by omega)]
                  clear hx hdl m2 m3
                  go_upto_region 30 with fail
                  go_loopg [140] dl (fun z c140 wr => ∃ (j k : Nat) (v : Value) (q : Nat → Nat) (t' : (Nat → Int) × (Nat → Nat)), z = dl - j ∧ j ≤ dl ∧ c140 = .int .i64 j ∧ Hid (t' = ((D x).take j).foldl (est grp kp c) t) ∧ Hid (QAt wr W R G v k q t' (upd dn c 1) (lo0 + i * 100000 + j)) ∧ Hid (Out wr (R + 1) gv' N (memb grp n) (L ++ [c]) v.ownBlock) ∧ Hid (Below w1.heap.size w1 wr))
                  case atStart => exact ⟨0, k, v, q, t, by omega, by omega, rfl, (by simp : t = _), hQ, hOut, hB⟩
                  case round =>
                    obtain ⟨j, k, v, q, t', rfl, hjd, rfl, ht', hQ', hOut', hB'⟩ := hrel
                    by_cases hjd2 : j < dl
                    · obtain rfl : ld2 = some ⟨AD, lo2, none⟩ := HM2.out.resolve_left (by omega)
                      have cy := HM3.out hB'.out j hjd2
                      obtain ⟨y, hy⟩ : ∃ y, y = (D x).getD j 0 := ⟨_, rfl⟩
                      rw [← hy] at cy
                      have hyn : y < n := HDX.out x y (by
                        rw [hy, List.getD_eq_getElem?_getD, List.getElem?_eq_getElem (by rw [← HDLx.out]; exact hjd2)]
                        exact List.getElem_mem _)
                      have EST : Hid (((D x).take (j + 1)).foldl (est grp kp c) t = est grp kp c t' y) := by
                        show _ = _
                        rw [foldl_take_succ (by rw [← HDLx.out]; exact hjd2), ← ht'.out, ← hy]
                      clear hy
                      have HT12 : Hid (Tables wr K b F n G N D grp NB LD AD GB LM AM) := HT.out.below (hB'.out.mono HK.out)
                      have c8 := HT12.out.g.cell (i := 8) (by omega)
                      rw [HT12.out.f8] at c8
                      have cg := HT12.out.hG.cell hyn
                      rw [show nv grp y = .int .i64 ((grp y : Nat) : Int) from rfl] at cg
                      have hdG : grp y < G := HGR.out.lt y hyn
                      have cw := hQ'.out.hW.cell hdG
                      have fw := hQ'.out.hW.free (grp y)
                      rw [show iv t'.1 (grp y) = .int .i64 (t'.1 (grp y)) from rfl] at cw
                      have hz1 := hQ'.out.low (grp y)
                      have hz2 := hQ'.out.up (grp y)
                      obtain ⟨d, hd⟩ : ∃ d, d = grp y := ⟨_, rfl⟩
                      obtain ⟨z, hz⟩ : ∃ z, z = t'.1 (grp y) := ⟨_, rfl⟩
                      rw [← hz] at cw hz1 hz2
                      rw [← hd] at cw cg fw hdG
                      have HD : Hid (d = grp y) := hd
                      have HZ : Hid (z = t'.1 (grp y)) := hz
                      have hz3 : -3000000000000000 ≤ z := by omega
                      obtain ⟨KB, rfl, ck⟩ := HKC.out hB'.out hyn
                      clear hd hz hz1
                      by_cases hdc : d = c
                      · have e0 : (((d : Nat) : Int) != ((c : Nat) : Int)) = false := by rw [hdc]; simp
                        have HDC : Hid (grp y = c) := by show _ = _; rw [← HD.out]; exact hdc
                        clear hdc
                        go_wp2_with fail
                        go_roundg (dl - (j + 1))
                        case measure => omega
                        case rel => exact ⟨j + 1, k, v, q, est grp kp c t' y, rfl, by omega, by go_num, EST.out.symm, hQ'.out.same HDC.out, hOut', hB'⟩
                      · have e0 : (((d : Nat) : Int) != ((c : Nat) : Int)) = true := by simp; omega
                        have HDC : Hid (grp y ≠ c) := by show _ ≠ _; rw [← HD.out]; exact hdc
                        clear hdc
                        have HWRr : Hid (W < R ∧ W = w1.heap.size) := ⟨HWR.out, HWE.out⟩
                        have HO12 : Hid (Only (fun k => k = W) wr (wr.setCell ⟨W, d, none⟩ (.int .i64 (z - 1)))) := (Only.setCell _ _ _).weak (fun i h => h)
                        have HB12 : Hid (Below w1.heap.size w1 (wr.setCell ⟨W, d, none⟩ (.int .i64 (z - 1)))) := hB'.out.trans (HO12.out.below hB'.out.size (fun i hi e => by have := HWRr.out; omega))
                        have HOUT12 : Hid (Out (wr.setCell ⟨W, d, none⟩ (.int .i64 (z - 1))) (R + 1) gv' N (memb grp n) (L ++ [c]) v.ownBlock) := hOut'.out.only HO12.out (fun i h => Or.inl (by have := HWRr.out; omega))
                        have HDEC : Hid (¬ (z - 1 = 0 ∧ kp y = true) → QAt (wr.setCell ⟨W, d, none⟩ (.int .i64 (z - 1))) W R G v k q (est grp kp c t' y) (upd dn c 1) (lo0 + i * 100000 + j + 1)) := fun hn => by
                          have := hQ'.out.dec (keep := kp) HDC.out (by rw [← HD.out]; exact hdG) (by rw [← HZ.out]; exact hn)
                          rw [← HZ.out, ← HD.out] at this
                          exact this
                        have fin : Hid (¬ (z - 1 = 0 ∧ kp y = true) → ∃ (j_1 k : Nat) (v : Value) (q : Nat → Nat) (t'_1 : (Nat → Int) × (Nat → Nat)), dl - (j + 1) = dl - j_1 ∧ j_1 ≤ dl ∧ Value.int .i64 ((j : Int) + 1) = .int .i64 j_1 ∧ Hid (t'_1 = ((D x).take j_1).foldl (est grp kp c) t) ∧ Hid (QAt (wr.setCell ⟨W, d, none⟩ (.int .i64 (z - 1))) W R G v k q t'_1 (upd dn c 1) (lo0 + i * 100000 + j_1)) ∧ Hid (Out (wr.setCell ⟨W, d, none⟩ (.int .i64 (z - 1))) (R + 1) gv' N (memb grp n) (L ++ [c]) v.ownBlock) ∧ Hid (Below w1.heap.size w1 (wr.setCell ⟨W, d, none⟩ (.int .i64 (z - 1))))) := fun hn =>
                          ⟨j + 1, k, v, q, est grp kp c t' y, rfl, by omega, by go_num, EST.out.symm, HDEC.out hn, HOUT12, HB12⟩
                        by_cases hz0 : z - 1 = 0
                        · have e1 : (z - 1 == 0) = true := by rw [hz0]; rfl
                          have HZ0 : Hid (z - 1 = 0) := hz0
                          clear hz0
                          have ck2 : (wr.setCell ⟨W, d, none⟩ (.int .i64 (z - 1))).cell? ⟨KB, y, none⟩ = some (.bool (kp y)) := by
                            obtain ⟨KB', e, c'⟩ := HKC.out HB12.out hyn
                            cases e; exact c'
                          cases hky : kp y with
                          | false =>
                            rw [hky] at ck ck2
                            have HKY : Hid (¬ (z - 1 = 0 ∧ kp y = true)) := fun h => by rw [hky] at h; exact absurd h.2 (by decide)
                            clear hky
                            go_wp2_with fail
                            go_roundg (dl - (j + 1))
                            case measure => omega
                            case rel => exact fin.out HKY.out
                          | true =>
                            rw [hky] at ck ck2
                            have HKY : Hid (kp y = true) := hky
                            clear hky
                            have HH12 : Hid (HeapAt (wr.setCell ⟨W, d, none⟩ (.int .i64 (z - 1))) R v k q) := hQ'.out.hH.other (by have := HWRr.out; simp only; omega) (fun h => by have h5 := (hQ'.out.apart _ h).1; have := HWRr.out; simp only at h5; omega) _
                            have hkr : k < 100000 := by
                              have h1 := hQ'.out.ki.fresh (g := grp y) (by rw [← HZ.out]; exact HZ0.out)
                              have h2 := hQ'.out.room (by rw [← HD.out]; exact hdG) h1
                              omega
                            go_wp2_with (
                              go_at_call 21
                              refine (hpush_any (wr.setCell ⟨W, d, none⟩ (.int .i64 (z - 1))) R k d v q HH12.out hkr hQ'.out.hp).mono ?_
                              rintro e w13 ⟨rfl, v', q3, a1, a2, a3, a4, a5⟩
                              have A1 : Hid (HeapAt w13 R v' (k + 1) q3) := a1
                              have A2 : Hid (Mix (k + 1) (upd q k d) q3) := a2
                              have A3 : Hid (HP (k + 1) q3 0) := a3
                              have A4 : Hid (Only (fun kk => kk = R ∨ v.ownBlock = some kk) (wr.setCell ⟨W, d, none⟩ (.int .i64 (z - 1))) w13) := a4
                              have A5 : Hid (Moved (wr.setCell ⟨W, d, none⟩ (.int .i64 (z - 1))) v v') := a5
                              clear a1 a2 a3 a4 a5)
                            go_roundg (dl - (j + 1))
                            case measure => omega
                            case rel =>
                              refine ⟨j + 1, k + 1, v', q3, est grp kp c t' y, rfl, by omega, by go_num, EST.out.symm, ?_, ?_, ?_⟩
                              · refine hQ'.out.push (keep := kp) HDC.out (by rw [← HD.out]; exact hdG) ⟨by rw [← HZ.out]; exact HZ0.out, HKY.out⟩ A1.out (by rw [← HD.out]; exact A2.out) A3.out ?_
                                rw [← HZ.out, ← HD.out]; exact A4.out
                              · exact HOUT12.out.step A4.out (fun kk h => h.imp (fun e => by omega) id) A5.out
                              · refine HB12.out.trans (A4.out.below HB12.out.size (fun i hi => ?_))
                                rintro (h | h)
                                · have := HWRr.out; omega
                                · have := (hQ'.out.apart _ h).1; have := HWRr.out; omega
                        · have e1 : (z - 1 == 0) = false := by rw [beq_eq_false_iff_ne]; exact hz0
                          have HZ0 : Hid (¬ (z - 1 = 0 ∧ kp y = true)) := fun h => hz0 h.1
                          clear hz0
                          go_wp2_with fail
                          go_roundg (dl - (j + 1))
                          case measure => omega
                          case rel => exact fin.out HZ0.out
                    · obtain rfl : dl = j := by omega
                      go_wp2_with fail
                      go_roundg (ml - (i + 1))
                      case measure => omega
                      case rel =>
                        refine ⟨i + 1, k, v, q, t', rfl, by omega, by go_num, ?_, hQ'.out.weaker (by omega), hOut', hB'⟩
                        show _ = _
                        rw [foldl_flat_succ (by rw [← HML.out]; exact him2), ← ht.out, ← HX.out, ht'.out, List.take_of_length_le (by rw [← HDLx.out]; exact Nat.le_refl _)]
                · obtain rfl : ml = i := by omega
                  go_wp2_with fail
                  go_roundg (unv (upd dn c 1) G)
                  case measure => have := HUN.out; omega
                  case rel =>
                    have hun := HUN.out
                    refine ⟨upd dn c 1, t, k, q, v, gv', L ++ [c], rfl, rfl, by simp; omega, hQ.out.weaker (by have := HLO.out; omega), hOut, ?_, hB⟩
                    show _ = _
                    have et : t = (outs D grp n c).foldl (est grp kp c) s0 := by
                      rw [ht.out, List.take_of_length_le (by rw [← HML.out]; exact Nat.le_refl _)]; rfl
                    rw [hOrd.out, HRUN.out, et]
                    simp
end Go.Proofs.Qxb6616383a
