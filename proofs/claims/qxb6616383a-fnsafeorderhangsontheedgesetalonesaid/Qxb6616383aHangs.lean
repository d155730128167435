/-
  The walk of the law FnSafeOrderHangsOnTheEdgeSetAlone.
-/
import Derived.Test.Qxb6616383aEdges
namespace Go.Proofs.Qxb6616383a
open Go.RowKit
open Plain
set_option maxRecDepth 100000 in
set_option maxHeartbeats 4000000 in
theorem hangs_any (h33 : Finds) (w : World) (aa ab ak : Option Addr) (la ca lb cb lk ck : Nat) (fa fb : Nat → ByteArray) (fk : Nat → Bool) (ha : SArg w aa la ca (sv fa)) (hb : SArg w ab lb cb (sv fb)) (hk : SArg w ak lk ck (bv fk)) (sa : ∀ k, k < la → (fa k).size ≤ maxLen) (sb : ∀ k, k < lb → (fb k).size ≤ maxLen) :
    Calls Try.prog 4 #[.slice aa la ca, .slice ab lb cb, .slice ak lk ck] w fun e w' => e = .returned (.bool true) ∧ Below w.heap.size w w' := by
  have HA : Hid (SArg w aa la ca (sv fa)) := ha
  have HB : Hid (SArg w ab lb cb (sv fb)) := hb
  have HK : Hid (SArg w ak lk ck (bv fk)) := hk
  have HSA : Hid (∀ k, k < la → (fa k).size ≤ maxLen) := sa
  have HSB : Hid (∀ k, k < lb → (fb k).size ≤ maxLen) := sb
  clear ha hb hk sa sb
  go_enter Try.func4, Try.ntmps4
  go_upto_region 13 with (first
    | (go_at_call 10
       refine (zz10_any w aa ab ak la ca lb cb lk ck fa fb HA.out HB.out).mono ?_
       rintro e w' ⟨⟨q, rfl⟩, hw⟩
       obtain rfl := hw.symm)
    | (go_at_call 6
       refine (bytes_any w aa ab la ca lb cb lk fa fb HA.out HB.out (by omega) (by omega) (by omega)).mono ?_
       rintro e w' ⟨⟨q, rfl⟩, hw⟩
       obtain rfl := hw.symm))
  all_goals (try (go_ret; exact ⟨rfl, Below.refl _ _⟩))
  have HQ : Hid (la = lb) := by
    have h : ((la : Int) != (lb : Int)) = false := by assumption
    rw [bne_eq_false_iff_eq] at h
    show la = lb
    omega
  obtain rfl := HQ.out
  have HSZ : Hid (∀ k, k < la → (fa k).size ≤ maxLen ∧ (fb k).size ≤ maxLen) := fun k hk => ⟨HSA.out k hk, HSB.out k hk⟩
  have hla : la ≤ 4096 := by omega
  have hlk : lk ≤ 65536 := by omega
  go_upto_if 54 with fail
  go_cut [2] (fun s wx => ∃ ao kc, s = .slice ao lk kc ∧ Hid (lk = 0 ∨ ∃ KB, ao = some ⟨KB, 0, none⟩ ∧ w.heap.size ≤ KB ∧ Arr wx KB 4 lk (bv fk)) ∧ Hid (Below w.heap.size w wx))
  case first =>
    as_aux_lemma =>
      cases ak with
      | none =>
        go_wp2_with fail
        go_meet
        exact ⟨none, ck, rfl, Or.inl (HK.out.none_ rfl).1, Below.refl _ _⟩
      | some ad =>
        have hmk := run_make_row' (P := Try.prog) 23 4 (.bool false) 1 Try.underlying23 Try.info4 rfl .i64 .i64 lk (by omega) (by omega)
        go_upto_region 15 with fail
        obtain ⟨w1, hw1⟩ : ∃ w1 : World, w1 = w.alloc (.cells (madeCells #[.bool false] lk) 4) := ⟨_, rfl⟩
        rw [← hw1]
        have M1 : Hid (w1.heap[w.heap.size]? = some (.cells ((List.range lk).map fun _ => Value.bool false).toArray 4 (0, 0))) := by
          show _ = _
          rw [hw1]
          exact made_at' w 4 lk (.bool false)
        have B1 : Hid (Below w.heap.size w w1) := by rw [hw1]; exact (Only.alloc w _ (fun _ => False)).below (Nat.le_refl _) (fun _ _ => id)
        have S1 : Hid (∀ (j : Nat) (v : Value), ((List.range lk).map (bv fk))[j]? = some v → w1.cell? (ad.add j) = some v) := by
          intro j v hv
          have hj : j < lk := by
            rcases Nat.lt_or_ge j lk with h | h
            · exact h
            · rw [List.getElem?_eq_none (by simpa using h)] at hv; cases hv
          rw [(HK.out.kept B1.out).cell ad rfl j hj]
          simpa [hj] using hv
        have hcp := run_copy_row (P := Try.prog) w1 23 23 3 4 w.heap.size 0 lk lk ad lk ck ((List.range lk).map fun _ => Value.bool false).toArray 4 ((List.range lk).map (bv fk)) Try.underlying23 Try.size4 M1.out (by simp) S1.out (by simp) (by simp [bv, Value.oneCell'])
        obtain ⟨w2, hw2⟩ : ∃ w2 : World, w2 = w1.setRow w.heap.size (((List.range lk).map fun _ => Value.bool false).toArray.toList.take 0 ++ (List.range lk).map (bv fk) ++ ((List.range lk).map fun _ => Value.bool false).toArray.toList.drop (0 + ((List.range lk).map (bv fk)).length)).toArray := ⟨_, rfl⟩
        rw [← hw2, List.length_map, List.length_range] at hcp
        have A2 : Hid (Arr w2 w.heap.size 4 lk (bv fk)) := by
          show Arr _ _ _ _ _
          unfold Arr
          rw [hw2, setRow_heap w1 w.heap.size _ _ 4 _ M1.out]
          simp
        have B2 : Hid (Below w.heap.size w w2) := by rw [hw2]; exact below_setRow B1.out (Nat.le_refl _) _
        clear hw1 hmk hw2
        go_wp2_with fail
        go_meet
        exact ⟨some ⟨w.heap.size, 0, none⟩, lk, rfl, Or.inr ⟨w.heap.size, rfl, Nat.le_refl _, A2.out⟩, B2.out⟩
  case rest =>
    obtain ⟨ao, kc, rfl, HKP, HBC⟩ := hcut
    go_upto_region 18 with (
      go_at_call 11
      refine (names_any wc aa ab la ca la cb fa fb (HA.out.kept HBC.out) (HB.out.kept HBC.out) hla hla).mono ?_
      rintro e w3 ⟨NB, n, nc, f, rfl, hNB, hN3, hB3, hNm⟩
      have HNB : Hid (wc.heap.size ≤ NB) := hNB
      have HN3 : Hid (Row w3 NB 9 n (sv f)) := hN3
      have HB3 : Hid (Below w.heap.size w w3) := HBC.out.trans (hB3.mono HBC.out.size)
      have HK3 : Hid (lk = 0 ∨ ∃ KB, ao = some ⟨KB, 0, none⟩ ∧ w.heap.size ≤ KB ∧ Arr w3 KB 4 lk (bv fk)) := by
        rcases HKP.out with h | ⟨KB, e1, e2, e3⟩
        · exact Or.inl h
        · exact Or.inr ⟨KB, e1, e2, e3.below hB3 e3.lt⟩
      have HNM : Hid (Names la la fa fb n f) := hNm
      clear hNB hN3 hB3 hNm)
    have hn : n ≤ 8192 := by have := HNM.out.le; omega
    by_cases hkn : lk < n
    · go_wp2_with fail
      go_ret
      exact ⟨rfl, HB3.out⟩
    have hmk := run_make_edges la la (Nat.le_refl _) (by omega) w3
    go_upto_region 23 with fail
    obtain ⟨w4, hw4⟩ : ∃ w4 : World, w4 = w3.alloc (.cells (madeCells #[.string ⟨#[]⟩, .string ⟨#[]⟩] (la * 2)) 31) := ⟨_, rfl⟩
    rw [← hw4]
    obtain ⟨EB, hEB⟩ : ∃ EB, EB = w3.heap.size := ⟨_, rfl⟩
    rw [← hEB]
    have E4 : Hid (Arr w4 EB 31 (la * 2) (ev (upto 0 fa) (upto 0 fb))) := by rw [hw4, hEB]; exact made_edges _ _ _ _
    have O4 : Hid (Below EB w3 w4) := by rw [hw4, hEB]; exact (Only.alloc w3 _ (fun _ => False)).below (Nat.le_refl _) (fun _ _ => id)
    have ZE : Hid (EB = w3.heap.size) := hEB
    have W3 : Hid (∀ wr, Below EB w3 wr → Below w.heap.size w wr) := fun wr h => HB3.out.trans (h.mono (by rw [ZE.out]; exact HB3.out.size))
    have hEw : w.heap.size ≤ EB := by rw [hEB]; exact HB3.out.size
    clear hw4 hEB hmk
    go_wp2_with fail
    go_loopg [12] la (fun z c12 wr => ∃ k : Nat, z = la - k ∧ k ≤ la ∧ c12 = .int .i64 k ∧ Hid (Arr wr EB 31 (la * 2) (ev (upto k fa) (upto k fb))) ∧ Hid (Below EB w3 wr))
    case atStart => exact ⟨0, by omega, by omega, rfl, E4, O4⟩
    case round =>
      obtain ⟨k, rfl, hk, rfl, hE, hO⟩ := hrel
      by_cases hkm : k < la
      ·
        as_aux_lemma =>
          obtain ⟨b1, o1, rfl, hb1, r1⟩ := HA.out.reads hkm
          obtain ⟨b2, o2, rfl, hb2, r2⟩ := HB.out.reads hkm
          have x0 := r1 wr (W3.out wr hO.out)
          have x1 := r2 wr (W3.out wr hO.out)
          have y0 := put2_cell k (.string (fa k)) (.string (fb k)) x0 (show b1 ≠ EB by omega)
          have y1 := put2_cell k (.string (fa k)) (.string (fb k)) x1 (show b2 ≠ EB by omega)
          have g0 := hE.out.cell (i := k * 2) (by omega)
          have g1 := hE.out.cell (i := k * 2 + 1) (by omega)
          have fg := fun i => hE.out.free i
          clear r1 r2
          simp only [sv] at x0 x1 y0 y1
          go_upto_region 26 with fail
          go_region_held3 (fun w' => w'.cell? ⟨b1, o1 + k, none⟩ = some (.string (fa k)) ∧ w'.cell? ⟨b2, o2 + k, none⟩ = some (.string (fb k))) (first
            | exact ⟨x0, x1⟩
            | exact ⟨y0, y1⟩) (fail)
          generalize hw5 : World.drew _ = w5
          have E5 : Hid (Arr w5 EB 31 (la * 2) (ev (upto (k + 1) fa) (upto (k + 1) fb))) := by
            rw [← hw5, ← ev_put]
            exact ((hE.out.set (k * 2) (.string (fa k))).set (k * 2 + 1) (.string (fb k))).drew
          have O5 : Hid (Below EB w3 w5) := by
            rw [← hw5]
            exact hO.out.trans (((put2_only wr EB k (.string (fa k)) (.string (fb k))).trans (Only.drewN _ 1 _)).below (Nat.le_of_lt hE.out.lt) (fun y hy => by omega))
          clear hw5 x0 x1 y0 y1 g0 g1 fg
          go_wp2_with fail
          go_roundg (la - (k + 1))
          case measure => omega
          case rel => exact ⟨k + 1, rfl, by omega, by go_num, E5, O5⟩
      · obtain rfl : la = k := by omega
        have E6 : Hid (Arr wr EB 31 (la * 2) (ev fa fb)) := ev_full _ _ _ _ _ hE.out
        have O6 : Hid (Below EB w3 wr) := hO.out
        clear hE hO
        have hmk := run_make_edges 0 (3 * la) (by omega) (by omega) wr
        rw [show ((3 * la : Nat) : Int) = 3 * (la : Int) by omega, show ((0 : Nat) : Int) = 0 from rfl] at hmk
        go_upto_region 28 with fail
        obtain ⟨w7, hw7⟩ : ∃ w7 : World, w7 = wr.alloc (.cells (madeCells #[.string ⟨#[]⟩, .string ⟨#[]⟩] (3 * la * 2)) 31) := ⟨_, rfl⟩
        rw [← hw7]
        obtain ⟨AB, hAB⟩ : ∃ AB, AB = wr.heap.size := ⟨_, rfl⟩
        rw [← hAB]
        obtain ⟨C, hC⟩ : ∃ C, C = 3 * la := ⟨_, rfl⟩
        have A7 : Hid (Arr w7 AB 31 (C * 2) (ev (upto 0 (dep2 la fa)) (upto 0 (dpt2 la fa fb)))) := by rw [hw7, hAB, hC]; exact made_edges _ _ _ _
        have O7 : Hid (Below AB wr w7) := by rw [hw7, hAB]; exact (Only.alloc wr _ (fun _ => False)).below (Nat.le_refl _) (fun _ _ => id)
        have ZA : Hid (AB = wr.heap.size) := hAB
        obtain ⟨w6, hw6⟩ : ∃ w6 : World, w6 = wr := ⟨_, rfl⟩
        rw [← hw6] at E6 O6 O7 ZA
        have W6 : Hid (∀ wr, Below AB w6 wr → Below w.heap.size w wr) := fun wr h => W3.out wr (O6.out.trans (h.mono (by rw [ZA.out]; exact Nat.le_of_lt E6.out.lt)))
        have hAE : EB < AB := by rw [ZA.out]; exact E6.out.lt
        have HC : Hid (C = 3 * la) := hC
        have hC1 : 3 * la ≤ C ∧ C ≤ 3 * la := by omega
        rw [← hC]
        clear hw6 hw7 hAB hmk hC
        go_wp2_with fail
        go_loopg [13, 14] la (fun z c13 c14 wr => ∃ t : Nat, z = la - t ∧ t ≤ la ∧ c13 = .slice (some ⟨AB, 0, none⟩) t C ∧ c14 = .int .i64 ((la : Int) - 1 - (t : Int)) ∧ Hid (Arr wr AB 31 (C * 2) (ev (upto t (dep2 la fa)) (upto t (dpt2 la fa fb)))) ∧ Hid (Below AB w6 wr))
        case atStart => exact ⟨0, by omega, by omega, rfl, by go_num, A7, O7⟩
        case round =>
          obtain ⟨t, rfl, ht, rfl, rfl, hE, hO⟩ := hrel
          by_cases htm : t < la
          ·
            as_aux_lemma =>
              obtain ⟨k, hk⟩ : ∃ k, k = la - 1 - t := ⟨_, rfl⟩
              obtain ⟨b1, o1, rfl, hb1, r1⟩ := HA.out.reads (show k < la by omega)
              obtain ⟨b2, o2, rfl, hb2, r2⟩ := HB.out.reads (show k < la by omega)
              have x0 := r1 wr (W6.out wr hO.out)
              have x1 := r2 wr (W6.out wr hO.out)
              have y0 := alloc_cell (.cells #[.string (fa k), .string (fb k)] 31) x0
              have y1 := alloc_cell (.cells #[.string (fa k), .string (fb k)] 31) x1
              have z0 := put2_cell t (.string (fa k)) (.string (fb k)) y0 (show b1 ≠ AB by omega)
              have z1 := put2_cell t (.string (fa k)) (.string (fb k)) y1 (show b2 ≠ AB by omega)
              have EA : Hid (Arr (wr.alloc (.cells #[.string (fa k), .string (fb k)] 31)) AB 31 (C * 2) (ev (upto t (dep2 la fa)) (upto t (dpt2 la fa fb)))) := hE.out.alloc _
              have g0 := EA.out.cell (i := t * 2) (by omega)
              have g1 := EA.out.cell (i := t * 2 + 1) (by omega)
              have fg := fun i => EA.out.free i
              have e14 : (la : Int) - 1 - (t : Int) = (k : Int) := by omega
              have htC : t + 1 ≤ C := by omega
              have hkl : k < la := by omega
              simp only [sv] at x0 x1 y0 y1 z0 z1
              rw [e14]
              have HKE : Hid (k = la - 1 - t) := hk
              clear r1 r2 e14 hk
              go_upto_region 31 with fail
              go_region_held3 (fun w' => w'.cell? ⟨b1, o1 + k, none⟩ = some (.string (fa k)) ∧ w'.cell? ⟨b2, o2 + k, none⟩ = some (.string (fb k))) (first
                | exact ⟨x0, x1⟩
                | exact ⟨y0, y1⟩
                | exact ⟨z0, z1⟩) (fail)
              generalize hw8 : World.drew _ = w8
              have E8 : Hid (Arr w8 AB 31 (C * 2) (ev (upto (t + 1) (dep2 la fa)) (upto (t + 1) (dpt2 la fa fb)))) := by
                rw [← hw8]
                exact ev_next hE.out (by rw [dep2_a _ _ htm, HKE.out]) (by rw [dpt2_a _ _ _ htm, HKE.out])
              have O8 : Hid (Below AB w6 w8) := by
                rw [← hw8]
                exact hO.out.trans (below_next wr AB t _ _ _ (Nat.le_of_lt hE.out.lt))
              clear hw8 x0 x1 y0 y1 z0 z1 g0 g1 fg EA
              go_wp2_with fail
              go_roundg (la - (t + 1))
              case measure => omega
              case rel => exact ⟨t + 1, rfl, by omega, rfl, by have := HKE.out; go_num, E8, O8⟩
          · obtain rfl : la = t := by omega
            have hE8 : Hid (Arr wr AB 31 (C * 2) (ev (upto (la + 0) (dep2 la fa)) (upto (la + 0) (dpt2 la fa fb)))) := hE.out
            have hO8 : Hid (Below AB w6 wr) := hO.out
            clear hE hO
            go_wp2_with fail
            go_loopg [13, 15] la (fun z c13 c15 wr => ∃ k : Nat, z = la - k ∧ k ≤ la ∧ c13 = .slice (some ⟨AB, 0, none⟩) (la + k) C ∧ c15 = .int .i64 k ∧ Hid (Arr wr AB 31 (C * 2) (ev (upto (la + k) (dep2 la fa)) (upto (la + k) (dpt2 la fa fb)))) ∧ Hid (Below AB w6 wr))
            case atStart => exact ⟨0, by omega, by omega, rfl, rfl, hE8, hO8⟩
            case round =>
              obtain ⟨k, rfl, hk, rfl, rfl, hE, hO⟩ := hrel
              by_cases hkl : k < la
              ·
                as_aux_lemma =>
                  obtain ⟨b1, o1, rfl, hb1, r1⟩ := HA.out.reads hkl
                  obtain ⟨t, ht2⟩ : ∃ t, t = la + k := ⟨_, rfl⟩
                  rw [← ht2] at hE
                  have x0 := r1 wr (W6.out wr hO.out)
                  have y0 := alloc_cell (.cells #[.string (fa k), .string (fa k)] 31) x0
                  have z0 := put2_cell t (.string (fa k)) (.string (fa k)) y0 (show b1 ≠ AB by omega)
                  have EA : Hid (Arr (wr.alloc (.cells #[.string (fa k), .string (fa k)] 31)) AB 31 (C * 2) (ev (upto t (dep2 la fa)) (upto t (dpt2 la fa fb)))) := hE.out.alloc _
                  have g0 := EA.out.cell (i := t * 2) (by omega)
                  have g1 := EA.out.cell (i := t * 2 + 1) (by omega)
                  have fg := fun i => EA.out.free i
                  have htC : t + 1 ≤ C := by omega
                  simp only [sv] at x0 y0 z0
                  have HKE : Hid (t = la + k) := ht2
                  rw [← ht2]
                  clear r1 ht2
                  go_upto_region 35 with fail
                  go_region_held3 (fun w' => w'.cell? ⟨b1, o1 + k, none⟩ = some (.string (fa k))) (first
                    | exact x0
                    | exact y0
                    | exact z0) (fail)
                  generalize hw8 : World.drew _ = w8
                  have E8 : Hid (Arr w8 AB 31 (C * 2) (ev (upto (t + 1) (dep2 la fa)) (upto (t + 1) (dpt2 la fa fb)))) := by
                    rw [← hw8]
                    exact ev_next hE.out (by rw [HKE.out, dep2_b _ _ hkl]) (by rw [HKE.out, dpt2_b _ _ _ hkl])
                  have O8 : Hid (Below AB w6 w8) := by
                    rw [← hw8]
                    exact hO.out.trans (below_next wr AB t _ _ _ (Nat.le_of_lt hE.out.lt))
                  clear hw8 x0 y0 z0 g0 g1 fg EA
                  go_wp2_with fail
                  go_roundg (la - (k + 1))
                  case measure => omega
                  case rel =>
                    refine ⟨k + 1, rfl, by omega, by rw [HKE.out, Nat.add_assoc], by go_num, ?_, O8⟩
                    rw [← Nat.add_assoc, ← HKE.out]
                    exact E8
              · obtain rfl : la = k := by omega
                have hE9 : Hid (Arr wr AB 31 (C * 2) (ev (upto (2 * la + 0) (dep2 la fa)) (upto (2 * la + 0) (dpt2 la fa fb)))) := by
                  have := hE.out
                  rw [show 2 * la + 0 = la + la by omega]
                  exact this
                have hO9 : Hid (Below AB w6 wr) := hO.out
                have e13 : la + la = 2 * la + 0 := by omega
                rw [e13]
                clear hE hO e13
                go_wp2_with fail
                go_loopg [13, 16] la (fun z c13 c16 wr => ∃ k : Nat, z = la - k ∧ k ≤ la ∧ c13 = .slice (some ⟨AB, 0, none⟩) (2 * la + k) C ∧ c16 = .int .i64 k ∧ Hid (Arr wr AB 31 (C * 2) (ev (upto (2 * la + k) (dep2 la fa)) (upto (2 * la + k) (dpt2 la fa fb)))) ∧ Hid (Below AB w6 wr))
                case atStart => exact ⟨0, by omega, by omega, rfl, rfl, hE9, hO9⟩
                case round =>
                  obtain ⟨k, rfl, hk, rfl, rfl, hE, hO⟩ := hrel
                  by_cases hkl : k < la
                  ·
                    as_aux_lemma =>
                      obtain ⟨b1, o1, rfl, hb1, r1⟩ := HA.out.reads hkl
                      obtain ⟨b2, o2, rfl, hb2, r2⟩ := HB.out.reads hkl
                      obtain ⟨t, ht2⟩ : ∃ t, t = 2 * la + k := ⟨_, rfl⟩
                      rw [← ht2] at hE
                      have x0 := r1 wr (W6.out wr hO.out)
                      have x1 := r2 wr (W6.out wr hO.out)
                      have y0 := alloc_cell (.cells #[.string (fa k), .string (fb k)] 31) x0
                      have y1 := alloc_cell (.cells #[.string (fa k), .string (fb k)] 31) x1
                      have z0 := put2_cell t (.string (fa k)) (.string (fb k)) y0 (show b1 ≠ AB by omega)
                      have z1 := put2_cell t (.string (fa k)) (.string (fb k)) y1 (show b2 ≠ AB by omega)
                      have EA : Hid (Arr (wr.alloc (.cells #[.string (fa k), .string (fb k)] 31)) AB 31 (C * 2) (ev (upto t (dep2 la fa)) (upto t (dpt2 la fa fb)))) := hE.out.alloc _
                      have g0 := EA.out.cell (i := t * 2) (by omega)
                      have g1 := EA.out.cell (i := t * 2 + 1) (by omega)
                      have fg := fun i => EA.out.free i
                      have htC : t + 1 ≤ C := by omega
                      simp only [sv] at x0 x1 y0 y1 z0 z1
                      have HKE : Hid (t = 2 * la + k) := ht2
                      rw [← ht2]
                      clear r1 r2 ht2
                      go_upto_region 39 with fail
                      go_region_held3 (fun w' => w'.cell? ⟨b1, o1 + k, none⟩ = some (.string (fa k)) ∧ w'.cell? ⟨b2, o2 + k, none⟩ = some (.string (fb k))) (first
                        | exact ⟨x0, x1⟩
                        | exact ⟨y0, y1⟩
                        | exact ⟨z0, z1⟩) (fail)
                      generalize hw8 : World.drew _ = w8
                      have E8 : Hid (Arr w8 AB 31 (C * 2) (ev (upto (t + 1) (dep2 la fa)) (upto (t + 1) (dpt2 la fa fb)))) := by
                        rw [← hw8]
                        exact ev_next hE.out (by rw [HKE.out, dep2_c]) (by rw [HKE.out, dpt2_c])
                      have O8 : Hid (Below AB w6 w8) := by
                        rw [← hw8]
                        exact hO.out.trans (below_next wr AB t _ _ _ (Nat.le_of_lt hE.out.lt))
                      clear hw8 x0 x1 y0 y1 z0 z1 g0 g1 fg EA
                      go_wp2_with fail
                      go_roundg (la - (k + 1))
                      case measure => omega
                      case rel =>
                        refine ⟨k + 1, rfl, by omega, by rw [HKE.out, Nat.add_assoc], by go_num, ?_, O8⟩
                        rw [← Nat.add_assoc, ← HKE.out]
                        exact E8
                  · obtain rfl : la = k := by omega
                    have EE : Hid (Arr wr EB 31 (la * 2) (ev fa fb)) := E6.out.below hO.out hAE
                    have AA : Hid (Arr wr AB 31 (3 * la * 2) (ev (dep2 la fa) (dpt2 la fa fb))) := by
                      have := hE.out
                      rw [show 2 * la + la = 3 * la by omega, HC.out] at this
                      exact ev_full _ _ _ _ _ this
                    have WW : Hid (Below EB w3 wr) := O6.out.trans (hO.out.mono (Nat.le_of_lt hAE))
                    have e13 : (Value.slice (some ⟨AB, 0, none⟩) (2 * la + la) C) = Value.slice (some ⟨AB, 0, none⟩) (3 * la) (3 * la) := by rw [HC.out, show 2 * la + la = 3 * la by omega]
                    rw [e13]
                    clear hE hO e13
                    go_upto_region 40 with fail
                    obtain ⟨w9, hw9⟩ : ∃ w9 : World, w9 = wr := ⟨_, rfl⟩
                    rw [← hw9] at EE AA WW
                    rw [← hw9]
                    clear hw9
                    as_aux_lemma =>
                      have HK9 : Hid (lk = 0 ∨ ∃ KB, ao = some ⟨KB, 0, none⟩ ∧ Arr w9 KB 4 lk (bv fk)) := by
                        rcases HK3.out with h | ⟨KB, e1, _, e3⟩
                        · exact Or.inl h
                        · exact Or.inr ⟨KB, e1, e3.below WW.out (by rw [ZE.out]; exact e3.lt)⟩
                      have N9 : Hid (∀ i, i < n → w9.cell? ⟨NB, i, none⟩ = some (.string (f i))) := fun i hi => (HN3.out.below WW.out (by rw [ZE.out]; exact HN3.out.lt)).cell hi
                      have B9 : Hid (Below w.heap.size w w9) := W3.out w9 WW.out
                      clear E4 O4 A7 O7 O6 E6 W6 hC1 hE8 hO8 hE9 hO9 HKP HBC HNB HN3 HB3 HK3 W3 WW ZE ZA hAE hEw HC HQ HA HB HK
                      go_upto_region 42 with (first
                        | (
                          go_at_call 8
                          refine (zz_any h33 w9 EB la fa fb EE.out (by omega) HSZ.out ao lk kc fk HK9.out (fun n' N' D' hm => by have := (HNM.out.made' (fun s => Iff.rfl) hm).1; omega)).mono ?_
                          rintro e w10 ⟨n1, G1, N1, D1, g1, v1, rfl, a1, a2, a3, a4, a5, a6⟩
                          have J1 : Hid (Made la fa fb n1 N1 D1 ∧ Gr n1 D1 g1 G1 ∧ (∀ u x, x ∈ D1 u → x < n1) ∧ Out w10 w9.heap.size v1 N1 (memb g1 n1) (order D1 g1 fk n1 G1) none ∧ Below w9.heap.size w9 w10) := ⟨a1, a2, a3, a5, a6⟩
                          clear a1 a2 a3 a4 a5 a6
                          have A10 : Hid (Arr w10 AB 31 (3 * la * 2) (ev (dep2 la fa) (dpt2 la fa fb))) := AA.out.below J1.out.2.2.2.2 AA.out.lt
                          have K10 : Hid (lk = 0 ∨ ∃ KB, ao = some ⟨KB, 0, none⟩ ∧ Arr w10 KB 4 lk (bv fk)) := by
                            rcases HK9.out with h | ⟨KB, e1, e3⟩
                            · exact Or.inl h
                            · exact Or.inr ⟨KB, e1, e3.below J1.out.2.2.2.2 e3.lt⟩
                          clear EE AA)
                        | (
                          go_at_call 8
                          refine (zz_any h33 w10 AB (3 * la) (dep2 la fa) (dpt2 la fa fb) A10.out (by omega) (again_size HSZ.out) ao lk kc fk K10.out (fun n' N' D' hm => by have := (HNM.out.made' again_cov hm).1; omega)).mono ?_
                          rintro e w11 ⟨n2, G2, N2, D2, g2, v2, rfl, a1, a2, a3, a4, a5, a6⟩
                          have J2 : Hid (Made (3 * la) (dep2 la fa) (dpt2 la fa fb) n2 N2 D2 ∧ Gr n2 D2 g2 G2 ∧ Out w11 w10.heap.size v2 N2 (memb g2 n2) (order D2 g2 fk n2 G2) none ∧ Below w10.heap.size w10 w11) := ⟨a1, a2, a5, a6⟩
                          clear a1 a2 a3 a4 a5 a6))
                      have J3 : Hid (∃ ao1 c1 ao2 c2 ln M, v1 = .slice ao1 ln c1 ∧ v2 = .slice ao2 ln c2 ∧ Gv w11 ao1 ln M f w9.heap.size ∧ Gv w11 ao2 ln M f w10.heap.size ∧ Parts n ln M ∧ (∀ i, (M i).length ≤ n) ∧ ln ≤ n ∧ ((∀ v, v < n → fk v = true) → ∀ x, x < n → ∃ i, i < ln ∧ x ∈ M i)) := by
                        obtain ⟨a1, a2, a3, a5, a6⟩ := J1.out
                        obtain ⟨b1, b2, b5, b6⟩ := J2.out
                        exact two HNM.out a1 a2 a3 (a5.only (Only.belowAll b6 (fun _ => False)) (fun _ h => h.elim)) b1 b2 b5
                      have K11 : Hid (lk = 0 ∨ ∃ KB, ao = some ⟨KB, 0, none⟩ ∧ Arr w11 KB 4 lk (bv fk)) := by
                        rcases K10.out with h | ⟨KB, e1, e3⟩
                        · exact Or.inl h
                        · exact Or.inr ⟨KB, e1, e3.below J2.out.2.2.2 e3.lt⟩
                      have O11 : Hid (Below w9.heap.size w9 w11) := J1.out.2.2.2.2.trans (J2.out.2.2.2.mono J1.out.2.2.2.2.size)
                      have N11 : Hid (∀ i, i < n → w11.cell? ⟨NB, i, none⟩ = some (.string (f i))) := fun i hi => by
                        rw [O11.out.cell (World.block_lt_of_cell? w9 _ (N9.out i hi))]; exact N9.out i hi
                      have B11 : Hid (Below w.heap.size w w11) := B9.out.trans (O11.out.mono B9.out.size)
                      obtain ⟨ao1, c1, ao2, c2, ln, M, rfl, rfl, V1, V2, hP, hM, hln, hAll⟩ := J3.out
                      obtain ⟨gb1, V1⟩ := V1
                      obtain ⟨gb2, V2⟩ := V2
                      have HV1 : Hid (∀ i, i < ln → ∃ g, ao1 = some ⟨g, 0, none⟩ ∧ w9.heap.size ≤ g ∧ w9.heap.size ≤ gb1 i ∧ w11.cell? ⟨g, i, none⟩ = some (.slice (some ⟨gb1 i, 0, none⟩) (M i).length (M i).length) ∧ ∀ j, j < (M i).length → w11.cell? ⟨gb1 i, j, none⟩ = some (.string (f ((M i).getD j 0)))) := V1
                      have HV2 : Hid (∀ i, i < ln → ∃ g, ao2 = some ⟨g, 0, none⟩ ∧ w10.heap.size ≤ g ∧ w10.heap.size ≤ gb2 i ∧ w11.cell? ⟨g, i, none⟩ = some (.slice (some ⟨gb2 i, 0, none⟩) (M i).length (M i).length) ∧ ∀ j, j < (M i).length → w11.cell? ⟨gb2 i, j, none⟩ = some (.string (f ((M i).getD j 0)))) := V2
                      have HP : Hid (Parts n ln M) := hP
                      have HM : Hid (∀ i, (M i).length ≤ n) := hM
                      have HALL : Hid ((∀ v, v < n → fk v = true) → ∀ x, x < n → ∃ i, i < ln ∧ x ∈ M i) := hAll
                      clear V1 V2 hP hM hAll J1 J2 J3 K10 HK9 N9 B9 A10 O11
                      go_wp2_with fail
                      go_loopg [19, 20] ln (fun z c19 c20 wr => ∃ (i : Nat) (u : Value), z = ln - i ∧ i ≤ ln ∧ c19 = .int .i64 i ∧ c20 = u ∧ Hid (Only (fun _ => False) w11 wr))
                      case atStart => exact ⟨0, _, by omega, by omega, rfl, rfl, Only.refl _ _⟩
                      case round =>
                        obtain ⟨i, u, rfl, hi, rfl, rfl, hO⟩ := hrel
                        by_cases hil : i < ln
                        ·
                          as_aux_lemma =>
                            obtain ⟨ga, rfl, _, _, x1, y1⟩ := HV1.out i hil
                            obtain ⟨gc, rfl, _, _, x2, y2⟩ := HV2.out i hil
                            obtain ⟨l, hl⟩ : ∃ l, l = (M i).length := ⟨_, rfl⟩
                            obtain ⟨p1, hp1⟩ : ∃ p1, p1 = gb1 i := ⟨_, rfl⟩
                            obtain ⟨p2, hp2⟩ : ∃ p2, p2 = gb2 i := ⟨_, rfl⟩
                            rw [← hl, ← hp1] at x1 y1
                            rw [← hl, ← hp2] at x2 y2
                            have hln' : l ≤ 8192 := by have := HM.out i; omega
                            have X1 : Hid (∀ wr, Only (fun _ => False) w11 wr → wr.cell? ⟨ga, i, none⟩ = some (.slice (some ⟨p1, 0, none⟩) l l) ∧ wr.cell? ⟨gc, i, none⟩ = some (.slice (some ⟨p2, 0, none⟩) l l)) := fun wr h => ⟨h.cell_ x1 id, h.cell_ x2 id⟩
                            have Y1 : Hid (∀ wr, Only (fun _ => False) w11 wr → ∀ j, j < l → wr.cell? ⟨p1, j, none⟩ = some (.string (f ((M i).getD j 0))) ∧ wr.cell? ⟨p2, j, none⟩ = some (.string (f ((M i).getD j 0)))) := fun wr h j hj => ⟨h.cell_ (y1 j hj) id, h.cell_ (y2 j hj) id⟩
                            clear x1 x2 y1 y2 hl hp1 hp2
                            obtain ⟨x1, x2⟩ := X1.out wr hO.out
                            go_upto_region 47 with fail
                            go_region_held3 (fun w' => w'.cell? ⟨ga, i, none⟩ = some (.slice (some ⟨p1, 0, none⟩) l l) ∧ w'.cell? ⟨gc, i, none⟩ = some (.slice (some ⟨p2, 0, none⟩) l l)) (exact ⟨x1, x2⟩) (fail)
                            have hO1 : Hid (Only (fun _ => False) w11 wr.drew) := hO.out.trans (Only.drewN _ 1 _)
                            generalize hw12 : World.drew wr = w12 at *
                            clear hw12 x1 x2 hO
                            go_wp2_with fail
                            go_loopg [20] l (fun z c20 wr => ∃ (j : Nat), z = l - j ∧ j ≤ l ∧ c20 = .int .i64 j ∧ Hid (Only (fun _ => False) w11 wr))
                            case atStart => exact ⟨0, by omega, by omega, rfl, hO1⟩
                            case round =>
                              obtain ⟨j, rfl, hj, rfl, hO⟩ := hrel
                              obtain ⟨x1, x2⟩ := X1.out wr hO.out
                              by_cases hjl : j < l
                              · obtain ⟨y1, y2⟩ := Y1.out wr hO.out j hjl
                                obtain ⟨sx, hsx⟩ : ∃ sx, sx = f ((M i).getD j 0) := ⟨_, rfl⟩
                                rw [← hsx] at y1 y2
                                clear hsx
                                go_upto_region 52 with fail
                                go_region_held3 (fun w' => w'.cell? ⟨ga, i, none⟩ = some (.slice (some ⟨p1, 0, none⟩) l l) ∧ w'.cell? ⟨gc, i, none⟩ = some (.slice (some ⟨p2, 0, none⟩) l l) ∧ w'.cell? ⟨p1, j, none⟩ = some (.string sx) ∧ w'.cell? ⟨p2, j, none⟩ = some (.string sx)) (exact ⟨x1, x2, y1, y2⟩) (fail)
                                have hO2 : Hid (Only (fun _ => False) w11 wr.drew) := hO.out.trans (Only.drewN _ 1 _)
                                generalize hw12 : World.drew wr = w13 at *
                                clear hw12 x1 x2 y1 y2 hO
                                go_wp2_with fail
                                go_roundg (l - (j + 1))
                                case measure => omega
                                case rel => exact ⟨j + 1, rfl, by omega, by go_num, hO2⟩
                              · obtain rfl : l = j := by omega
                                go_wp2_with fail
                                go_roundg (ln - (i + 1))
                                case measure => omega
                                case rel => exact ⟨i + 1, _, rfl, by omega, by go_num, rfl, hO⟩
                        · obtain rfl : ln = i := by omega
                          have O12 : Hid (Only (fun _ => False) w11 wr) := hO.out
                          clear hO
                          go_wp2_with fail
                          go_loopg [21, 22] n (fun z c21 c22 wr => ∃ (v : Nat) (b : Bool), z = n - v ∧ v ≤ n ∧ c21 = .bool b ∧ c22 = .int .i64 v ∧ Hid (b = true → ∀ x, x < v → fk x = true) ∧ Hid (Only (fun _ => False) w11 wr))
                          case atStart => exact ⟨0, true, by omega, by omega, rfl, rfl, fun _ x hx => by omega, O12⟩
                          case round =>
                            obtain ⟨v, b, rfl, hv, rfl, rfl, hB, hO⟩ := hrel
                            by_cases hvn : v < n
                            ·
                              as_aux_lemma =>
                                obtain ⟨KB, rfl, hK⟩ : ∃ KB, ao = some ⟨KB, 0, none⟩ ∧ Arr w11 KB 4 lk (bv fk) := by
                                  rcases K11.out with h | h
                                  · omega
                                  · exact h
                                have x1 := (hK.only hO.out id).cell (i := v) (by omega)
                                clear hK
                                have hvk : v < lk := by omega
                                cases hkv : fk v with
                                | true =>
                                  have HKV : Hid (fk v = true) := hkv
                                  simp only [bv, hkv] at x1
                                  clear hkv
                                  go_wp2_with fail
                                  go_roundg (n - (v + 1))
                                  case measure => omega
                                  case rel => exact ⟨v + 1, b, rfl, by omega, rfl, by go_num, fun hb x hx => (by
                                    by_cases e : x = v
                                    · rw [e]; exact HKV.out
                                    · exact hB.out hb x (by omega)), hO⟩
                                | false =>
                                  simp only [bv, hkv] at x1
                                  clear hkv
                                  go_wp2_with fail
                                  go_roundg (n - (v + 1))
                                  case measure => omega
                                  case rel => exact ⟨v + 1, false, rfl, by omega, rfl, by go_num, (fun hb => by cases hb), hO⟩
                            · obtain rfl : n = v := by omega
                              cases b with
                              | false =>
                                go_wp2_with fail
                                go_ret
                                exact ⟨rfl, B11.out.trans (hO.out.below B11.out.size (fun _ _ => id))⟩
                              | true =>
                                have HA' : Hid (∀ x, x < n → ∃ i, i < ln ∧ x ∈ M i) := HALL.out (hB.out rfl)
                                have hmk := run_make_row' (P := Try.prog) 23 4 (.bool false) 1 Try.underlying23 Try.info4 rfl .i64 .i64 n (by omega) (by omega) wr
                                go_upto_region 62 with fail
                                obtain ⟨w14, hw14⟩ : ∃ w14 : World, w14 = wr.alloc (.cells (madeCells #[.bool false] n) 4) := ⟨_, rfl⟩
                                rw [← hw14]
                                obtain ⟨SB, hSB⟩ : ∃ SB, SB = wr.heap.size := ⟨_, rfl⟩
                                rw [← hSB]
                                have S14 : Hid (Arr w14 SB 4 n (bv (fun _ => false))) := by rw [hw14, hSB]; exact made_at' wr 4 n (.bool false)
                                have O14 : Hid (Only (fun _ => False) w11 w14) := by rw [hw14]; exact hO.out.trans (Only.alloc _ _ _)
                                have hSz : Hid (w11.heap.size ≤ SB) := by rw [hSB]; exact hO.out.size
                                clear hw14 hSB hmk hB hO K11 HALL
                                go_wp2_with fail
                                go_loopg [24, 25, 26, 27] ln (fun z c24 c25 c26 c27 wr => ∃ (i c : Nat) (s : Nat → Bool) (u26 u27 : Value), z = ln - i ∧ i ≤ ln ∧ c24 = .int .i64 c ∧ c25 = .int .i64 i ∧ c26 = u26 ∧ c27 = u27 ∧ Hid (Arr wr SB 4 n (bv s)) ∧ Hid (Cov n M i 0 s c) ∧ Hid (Only (fun y => y = SB) w14 wr))
                                case atStart => exact ⟨0, 0, _, _, _, by omega, by omega, rfl, rfl, rfl, rfl, S14, Cov.zero n M, Only.refl _ _⟩
                                case round =>
                                  obtain ⟨i, c, s, u26, u27, rfl, hi, rfl, rfl, rfl, rfl, hS, hC, hO⟩ := hrel
                                  have hcn : c ≤ n := hC.out.le
                                  by_cases hil : i < ln
                                  ·
                                    as_aux_lemma =>
                                      obtain ⟨ga, rfl, _, _, x1, y1⟩ := HV1.out i hil
                                      obtain ⟨l, hl⟩ : ∃ l, l = (M i).length := ⟨_, rfl⟩
                                      obtain ⟨p1, hp1⟩ : ∃ p1, p1 = gb1 i := ⟨_, rfl⟩
                                      rw [← hl, ← hp1] at x1 y1
                                      have hln' : l ≤ 8192 := by have := HM.out i; omega
                                      have hl0 : 0 < l := by rw [hl]; exact List.length_pos_iff.2 (HP.out.some_ i hil)
                                      have LL : Hid (l = (M i).length) := hl
                                      have hsz := hSz.out
                                      have X1 : Hid (∀ wr, Only (fun y => y = SB) w14 wr → wr.cell? ⟨ga, i, none⟩ = some (.slice (some ⟨p1, 0, none⟩) l l)) := fun wr h => h.cell_ (O14.out.cell_ x1 id) (by have := World.block_lt_of_cell? w11 _ x1; simp only at this; omega)
                                      have Y1 : Hid (∀ wr, Only (fun y => y = SB) w14 wr → ∀ j, j < l → wr.cell? ⟨p1, j, none⟩ = some (.string (f ((M i).getD j 0)))) := fun wr h j hj => h.cell_ (O14.out.cell_ (y1 j hj) id) (by have := World.block_lt_of_cell? w11 _ (y1 j hj); simp only at this; omega)
                                      have NN : Hid (∀ wr, Only (fun y => y = SB) w14 wr → ∀ k, k < n → wr.cell? ⟨NB, k, none⟩ = some (.string (f k))) := fun wr h k hk => h.cell_ (O14.out.cell_ (N11.out k hk) id) (by have := World.block_lt_of_cell? w11 _ (N11.out k hk); simp only at this; omega)
                                      clear x1 y1 hl hp1 hsz
                                      have x1 := X1.out wr hO.out
                                      have l0 : ((l : Int) == 0) = false := by rw [beq_eq_false_iff_ne]; omega
                                      go_wp2_with fail
                                      go_loopg [24, 26, 27] l (fun z c24 c26 c27 wr => ∃ (j c : Nat) (s : Nat → Bool) (u27 : Value), z = l - j ∧ j ≤ l ∧ c24 = .int .i64 c ∧ c26 = .int .i64 j ∧ c27 = u27 ∧ Hid (Arr wr SB 4 n (bv s)) ∧ Hid (Cov n M i j s c) ∧ Hid (Only (fun y => y = SB) w14 wr))
                                      case atStart => exact ⟨0, c, s, _, by omega, by omega, rfl, rfl, rfl, hS, hC, hO⟩
                                      case round =>
                                        clear x1 hS hC hO
                                        obtain ⟨j, c, s, u27, rfl, hj, rfl, rfl, rfl, hS, hC, hO⟩ := hrel
                                        have x1 := X1.out wr hO.out
                                        have hcn : c ≤ n := hC.out.le
                                        by_cases hjl : j < l
                                        · have y1 := Y1.out wr hO.out j hjl
                                          obtain ⟨hx1, hx2, hx3⟩ := hC.out.step HP.out hil (by rw [← LL.out]; exact hjl)
                                          obtain ⟨x, hx⟩ : ∃ x, x = (M i).getD j 0 := ⟨_, rfl⟩
                                          rw [← hx] at y1 hx1 hx2 hx3
                                          have HC3 : Hid (Cov n M i (j + 1) (upd s x true) (c + 1)) := hx3
                                          have s1 := hS.out.cell (i := x) hx1
                                          simp only [bv, hx2] at s1
                                          have s2 := hS.out.free x
                                          have HCn : Hid (c + 1 ≤ n) := hx3.le
                                          have hcn1 : c + 1 ≤ n := HCn.out
                                          clear hx hx2 hx3
                                          go_upto_region 72 with (
                                            go_at_call 9
                                            refine (find_hit wr NB n nc f x hx1 (by omega) (NN.out wr hO.out) HNM.out.rises).mono ?_
                                            rintro e w' ⟨rfl, hw⟩
                                            obtain rfl := hw.symm)
                                          have xl : decide ((x : Int) < 0) = false := by simp
                                          go_wp2_with fail
                                          have S15 : Hid (Arr (wr.setCell ⟨SB, x, none⟩ (.bool true)) SB 4 n (bv (upd s x true))) := by
                                            have := hS.out.set x (.bool true)
                                            rw [upd_bv] at this
                                            exact this
                                          have O15 : Hid (Only (fun y => y = SB) w14 (wr.setCell ⟨SB, x, none⟩ (.bool true))) := hO.out.trans (Only.setCell wr ⟨SB, x, none⟩ (.bool true))
                                          go_roundg (l - (j + 1))
                                          case measure => omega
                                          case rel => exact ⟨j + 1, c + 1, upd s x true, _, rfl, by omega, by go_num, by go_num, rfl, S15, HC3, O15⟩
                                        · obtain rfl : l = j := by omega
                                          go_wp2_with fail
                                          go_roundg (ln - (i + 1))
                                          case measure => omega
                                          case rel =>
                                            refine ⟨i + 1, c, s, _, _, rfl, by omega, rfl, by go_num, rfl, rfl, hS, ?_, hO⟩
                                            have := hC.out
                                            rw [LL.out] at this
                                            exact this.next
                                  · obtain rfl : ln = i := by omega
                                    have hcc : c = n := hC.out.all HA'.out
                                    obtain rfl := hcc.symm
                                    go_wp2_with fail
                                    go_ret
                                    exact ⟨rfl, (B11.out.trans (O14.out.below B11.out.size (fun _ _ => id))).trans (hO.out.below (Nat.le_trans B11.out.size O14.out.size) (fun y hy => by have := hSz.out; have := B11.out.size; omega))⟩
end Go.Proofs.Qxb6616383a
