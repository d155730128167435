/-
  The walk of the law FnSafeOrderIsTheLeastOrderOfTheLoops.
-/
import Derived.Test.Qxb6616383aPlaces
import Derived.BigQuiet
namespace Go.Proofs.Qxb6616383a
open Go.RowKit
open Plain
theorem one3 {w : World} {B m n n1 G : Nat} {fa fb f N : Nat → ByteArray} {D O : Nat → List Nat} {grp x y cp : Nat → Nat} {kp : Nat → Bool} {v : Value} (hN : Names m m fa fb n f) (hE : ∀ k, k < m → x k < n ∧ f (x k) = fa k ∧ y k < n ∧ f (y k) = fb k)
    (a1 : Made m fa fb n1 N D) (a2 : Gr n1 D grp G) (a3 : ∀ u x, x ∈ D u → x < n1) (a5 : Out w B v N (memb grp n1) (order D grp kp n1 G) none) (hO : ∀ v z, z ∈ O v ↔ ∃ k, k < m ∧ x k = v ∧ y k = z) (hcp : ∀ v, v < n → Least1 O v (cp v)) (hu : ∀ v, v < n → kp v = kp (cp v)) :
    ∃ ao c ln M, v = .slice ao ln c ∧ Gv w ao ln M f B ∧ Facts3 n m ln M x y cp kp := by
  obtain ⟨e1, f1⟩ := hN.made' (fun s => Iff.rfl) a1
  obtain ⟨ao, c, h1, V1⟩ := a5.view (f := f) (fun i hi x hx => f1 x (mem_memb.1 hx).1)
  subst e1
  exact ⟨ao, c, _, _, h1, V1, facts3 hN.rises hE a1 f1 a2 a3 hO hcp hu⟩
set_option maxRecDepth 100000 in
set_option maxHeartbeats 4000000 in
theorem least_any (h33 : Finds) (w : World) (aa ab ak : Option Addr) (la ca lb cb lk ck : Nat) (fa fb : Nat → ByteArray) (fk : Nat → Bool) (ha : SArg w aa la ca (sv fa)) (hb : SArg w ab lb cb (sv fb)) (hk : SArg w ak lk ck (bv fk)) (sa : ∀ k, k < la → (fa k).size ≤ maxLen) (sb : ∀ k, k < lb → (fb k).size ≤ maxLen) :
    Calls Try.prog 3 #[.slice aa la ca, .slice ab lb cb, .slice ak lk ck] w fun e w' => e = .returned (.bool true) ∧ Below w.heap.size w w' := by
  have HA : Hid (SArg w aa la ca (sv fa)) := ha
  have HB : Hid (SArg w ab lb cb (sv fb)) := hb
  have HK : Hid (SArg w ak lk ck (bv fk)) := hk
  have HSA : Hid (∀ k, k < la → (fa k).size ≤ maxLen) := sa
  have HSB : Hid (∀ k, k < lb → (fb k).size ≤ maxLen) := sb
  clear ha hb hk sa sb
  go_enter Try.func3, Try.ntmps3
  go_upto_region 13 with (first
    | (go_at_call 5
       refine (zz5_any w aa ab ak la ca lb cb lk ck fa fb HA.out HB.out).mono ?_
       rintro e w' ⟨⟨q, rfl⟩, hw⟩
       obtain rfl := hw.symm)
    | (go_at_call 6
       refine (bytes_any w aa ab la ca lb cb lk fa fb HA.out HB.out (by omega) (by omega) (by omega)).mono ?_
       rintro e w' ⟨⟨q, rfl⟩, hw⟩
       obtain rfl := hw.symm))
  all_goals (try (go_ret; exact ⟨rfl, Below.refl _ _⟩))
  have HQ : Hid (la = lb) := by
    have h : ((la : Int) != (lb : Int)) = false := by assumption
    rw [bne_eq_false_iff_eq] at h
    show la = lb
    omega
  obtain rfl := HQ.out
  have HSZ : Hid (∀ k, k < la → (fa k).size ≤ maxLen ∧ (fb k).size ≤ maxLen) := fun k hk => ⟨HSA.out k hk, HSB.out k hk⟩
  have hla : la ≤ 4096 := by omega
  have hlk : lk ≤ 65536 := by omega
  go_upto_if 62 with fail
  go_cut [2] (fun s wx => ∃ ao kc, s = .slice ao lk kc ∧ Hid (lk = 0 ∨ ∃ KB, ao = some ⟨KB, 0, none⟩ ∧ w.heap.size ≤ KB ∧ Arr wx KB 4 lk (bv fk)) ∧ Hid (Below w.heap.size w wx))
  case first =>
    as_aux_lemma =>
      cases ak with
      | none =>
        go_wp2_with fail
        go_meet
        exact ⟨none, ck, rfl, Or.inl (HK.out.none_ rfl).1, Below.refl _ _⟩
      | some ad =>
        have hmk := run_make_row' (P := Try.prog) 23 4 (.bool false) 1 Try.underlying23 Try.info4 rfl .i64 .i64 lk (by omega) (by omega)
        go_upto_region 15 with fail
        obtain ⟨w1, hw1⟩ : ∃ w1 : World, w1 = w.alloc (.cells (madeCells #[.bool false] lk) 4) := ⟨_, rfl⟩
        rw [← hw1]
        have M1 : Hid (w1.heap[w.heap.size]? = some (.cells ((List.range lk).map fun _ => Value.bool false).toArray 4 (0, 0))) := by
          show _ = _
          rw [hw1]
          exact made_at' w 4 lk (.bool false)
        have B1 : Hid (Below w.heap.size w w1) := by rw [hw1]; exact (Only.alloc w _ (fun _ => False)).below (Nat.le_refl _) (fun _ _ => id)
        have S1 : Hid (∀ (j : Nat) (v : Value), ((List.range lk).map (bv fk))[j]? = some v → w1.cell? (ad.add j) = some v) := by
          intro j v hv
          have hj : j < lk := by
            rcases Nat.lt_or_ge j lk with h | h
            · exact h
            · rw [List.getElem?_eq_none (by simpa using h)] at hv; cases hv
          rw [(HK.out.kept B1.out).cell ad rfl j hj]
          simpa [hj] using hv
        have hcp := run_copy_row (P := Try.prog) w1 23 23 3 4 w.heap.size 0 lk lk ad lk ck ((List.range lk).map fun _ => Value.bool false).toArray 4 ((List.range lk).map (bv fk)) Try.underlying23 Try.size4 M1.out (by simp) S1.out (by simp) (by simp [bv, Value.oneCell'])
        obtain ⟨w2, hw2⟩ : ∃ w2 : World, w2 = w1.setRow w.heap.size (((List.range lk).map fun _ => Value.bool false).toArray.toList.take 0 ++ (List.range lk).map (bv fk) ++ ((List.range lk).map fun _ => Value.bool false).toArray.toList.drop (0 + ((List.range lk).map (bv fk)).length)).toArray := ⟨_, rfl⟩
        rw [← hw2, List.length_map, List.length_range] at hcp
        have A2 : Hid (Arr w2 w.heap.size 4 lk (bv fk)) := by
          show Arr _ _ _ _ _
          unfold Arr
          rw [hw2, setRow_heap w1 w.heap.size _ _ 4 _ M1.out]
          simp
        have B2 : Hid (Below w.heap.size w w2) := by rw [hw2]; exact below_setRow B1.out (Nat.le_refl _) _
        clear hw1 hmk hw2
        go_wp2_with fail
        go_meet
        exact ⟨some ⟨w.heap.size, 0, none⟩, lk, rfl, Or.inr ⟨w.heap.size, rfl, Nat.le_refl _, A2.out⟩, B2.out⟩
  case rest =>
    obtain ⟨ao, kc, rfl, HKP, HBC⟩ := hcut
    go_upto_region 18 with (
      go_at_call 7
      refine (graph_any wc aa ab la ca cb fa fb (HA.out.kept HBC.out) (HB.out.kept HBC.out) hla).mono ?_
      rintro e w3 ⟨NB, n, nc, f, FB, TB, CB, x, y, cp, O, rfl, h1, h2, h3, h4, h5, h6, h7, h8, h9⟩
      have G3 : Hid (Row w3 NB 9 n (sv f) ∧ Arr w3 FB 3 la (nv x) ∧ Arr w3 TB 3 la (nv y) ∧ Arr w3 CB 3 n (nv cp) ∧ Below wc.heap.size wc w3) := ⟨h1, h2, h3, h4, h9⟩
      have HNM : Hid (Names la la fa fb n f) := h5
      have HXY : Hid (∀ k, k < la → x k < n ∧ f (x k) = fa k ∧ y k < n ∧ f (y k) = fb k) := h6
      have HOO : Hid (∀ v z, z ∈ O v ↔ ∃ k, k < la ∧ x k = v ∧ y k = z) := h7
      have HCP : Hid (∀ v, v < n → Least1 O v (cp v)) := h8
      clear h1 h2 h3 h4 h5 h6 h7 h8 h9)
    have hn : n ≤ 8192 := by have := HNM.out.le; omega
    have HB3 : Hid (Below w.heap.size w w3) := HBC.out.trans (G3.out.2.2.2.2.mono HBC.out.size)
    by_cases hkn : lk < n
    · go_wp2_with fail
      go_ret
      exact ⟨rfl, HB3.out⟩
    obtain ⟨Z, hZ⟩ : ∃ Z, Z = w3.heap.size := ⟨_, rfl⟩
    have HZ : Hid (Z = w3.heap.size) := hZ
    have RW : Hid (∀ wr, Below Z w3 wr → Below w.heap.size w wr) := fun wr h => HB3.out.trans (h.mono (by rw [HZ.out]; exact HB3.out.size))
    have RC : Hid (∀ wr, Below Z w3 wr → ∀ v, v < n → wr.cell? ⟨CB, v, none⟩ = some (.int .i64 ((cp v : Nat) : Int))) := fun wr h v hv => (G3.out.2.2.2.1.below h (by rw [HZ.out]; exact G3.out.2.2.2.1.lt)).cell hv
    have RF : Hid (∀ wr, Below Z w3 wr → ∀ k, k < la → wr.cell? ⟨FB, k, none⟩ = some (.int .i64 ((x k : Nat) : Int))) := fun wr h v hv => (G3.out.2.1.below h (by rw [HZ.out]; exact G3.out.2.1.lt)).cell hv
    have RT : Hid (∀ wr, Below Z w3 wr → ∀ k, k < la → wr.cell? ⟨TB, k, none⟩ = some (.int .i64 ((y k : Nat) : Int))) := fun wr h v hv => (G3.out.2.2.1.below h (by rw [HZ.out]; exact G3.out.2.2.1.lt)).cell hv
    have RN : Hid (∀ wr, Below Z w3 wr → ∀ i, i < n → wr.cell? ⟨NB, i, none⟩ = some (.string (f i))) := fun wr h v hv => (G3.out.1.below h (by rw [HZ.out]; exact G3.out.1.lt)).cell hv
    have K3 : Hid (lk = 0 ∨ ∃ KB, ao = some ⟨KB, 0, none⟩ ∧ Arr w3 KB 4 lk (bv fk)) := by
      rcases HKP.out with h | ⟨KB, e1, e2, e3⟩
      · exact Or.inl h
      · exact Or.inr ⟨KB, e1, e3.below G3.out.2.2.2.2 e3.lt⟩
    have RK : Hid (∀ v, v < n → ∃ KB, ao = some ⟨KB, 0, none⟩ ∧ ∀ wr, Below Z w3 wr → ∀ u, u < n → wr.cell? ⟨KB, u, none⟩ = some (.bool (fk u))) := fun v hv => by
      rcases K3.out with h | ⟨KB, e1, e3⟩
      · omega
      · exact ⟨KB, e1, fun wr h u hu => (e3.below h (by rw [HZ.out]; exact e3.lt)).cell (by omega)⟩
    have HCL : Hid (∀ v, v < n → cp v < n) := fun v hv => Nat.lt_of_le_of_lt (HCP.out v hv).1 hv
    have B0 : Hid (Below Z w3 w3) := Below.refl _ _
    have hZw : w.heap.size ≤ Z := by rw [hZ]; exact HB3.out.size
    clear hZ HKP HBC HSA HSB HQ HK
    go_wp2_with fail
    go_loopg [13] n (fun z c13 wr => ∃ (v : Nat), z = n - v ∧ v ≤ n ∧ c13 = .int .i64 v ∧ Hid (∀ u, u < v → fk u = fk (cp u)) ∧ Hid (Below Z w3 wr))
    case atStart => exact ⟨0, by omega, by omega, rfl, fun u hu => by omega, B0⟩
    case round =>
      obtain ⟨v, rfl, hv, rfl, hU, hB⟩ := hrel
      by_cases hvn : v < n
      ·
        as_aux_lemma =>
          obtain ⟨KB, rfl, rk⟩ := RK.out v hvn
          have hcl := HCL.out v hvn
          have x1 := rk wr hB.out v hvn
          have x2 := RC.out wr hB.out v hvn
          have x3 := rk wr hB.out (cp v) hcl
          obtain ⟨c, hc⟩ : ∃ c, c = cp v := ⟨_, rfl⟩
          rw [← hc] at x2 x3 hcl
          have HC : Hid (c = cp v) := hc
          have hvk : v < lk := by omega
          have hck : c < lk := by omega
          clear rk hc
          by_cases he : fk v = fk c
          · obtain ⟨b, hb⟩ : ∃ b, b = fk v := ⟨_, rfl⟩
            rw [← he] at x3
            rw [← hb] at x1 x3
            have HE : Hid (fk v = fk c) := he
            clear hb he
            go_upto_region 24 with fail
            go_region_held3 (fun w' => w'.cell? ⟨KB, v, none⟩ = some (.bool b) ∧ w'.cell? ⟨CB, v, none⟩ = some (.int .i64 ((c : Nat) : Int)) ∧ w'.cell? ⟨KB, c, none⟩ = some (.bool b)) (exact ⟨x1, x2, x3⟩) (fail)
            have hB1 : Hid (Below Z w3 wr.drew) := hB.out.trans ((Only.drewN wr 1 (fun _ => False)).below (by rw [HZ.out]; exact hB.out.size) (fun _ _ => id))
            generalize hw4 : World.drew wr = w4 at *
            clear hw4 x1 x2 x3 hB
            go_wp2_with fail
            go_roundg (n - (v + 1))
            case measure => omega
            case rel => exact ⟨v + 1, rfl, by omega, by go_num, fun u hu => (by
              by_cases e : u = v
              · rw [e, ← HC.out]; exact HE.out
              · exact hU.out u (by omega)), hB1⟩
          · obtain ⟨b, hb⟩ : ∃ b, b = fk v := ⟨_, rfl⟩
            obtain ⟨b', hb'⟩ : ∃ b', b' = fk c := ⟨_, rfl⟩
            rw [← hb] at x1
            rw [← hb'] at x3
            rw [← hb, ← hb'] at he
            have hne : (b == b') = false := by rw [beq_eq_false_iff_ne]; exact he
            clear hb hb' he
            go_upto_region 24 with fail
            go_region_held3 (fun w' => w'.cell? ⟨KB, v, none⟩ = some (.bool b) ∧ w'.cell? ⟨CB, v, none⟩ = some (.int .i64 ((c : Nat) : Int)) ∧ w'.cell? ⟨KB, c, none⟩ = some (.bool b')) (exact ⟨x1, x2, x3⟩) (fail)
            have hB1 : Hid (Below Z w3 wr.drew) := hB.out.trans ((Only.drewN wr 1 (fun _ => False)).below (by rw [HZ.out]; exact hB.out.size) (fun _ _ => id))
            generalize hw4 : World.drew wr = w4 at *
            clear hw4 x1 x2 x3 hB
            go_wp2_with fail
            go_ret
            exact ⟨rfl, RW.out _ hB1.out⟩
      · obtain rfl : n = v := by omega
        have HU : Hid (∀ v, v < n → fk v = fk (cp v)) := hU.out
        have hmk := run_make_row' (P := Try.prog) 26 3 (.int .i64 0) 8 Try.underlying26 Try.info3 rfl .i64 .i64 n (by omega) (by omega) wr
        go_upto_region 27 with fail
        obtain ⟨w4, hw4⟩ : ∃ w4 : World, w4 = wr.alloc (.cells (madeCells #[.int .i64 0] n) 3) := ⟨_, rfl⟩
        rw [← hw4]
        obtain ⟨SZ, hSZ⟩ : ∃ SZ, SZ = wr.heap.size := ⟨_, rfl⟩
        rw [← hSZ]
        have S4 : Hid (Arr w4 SZ 3 n (nv (fun _ => 0))) := by rw [hw4, hSZ]; exact made_at' wr 3 n (.int .i64 0)
        have hZS : Z ≤ SZ := by rw [hSZ, HZ.out]; exact hB.out.size
        have B4 : Hid (Below Z w3 w4) := by rw [hw4]; exact hB.out.trans ((Only.alloc wr _ (fun _ => False)).below (by rw [← hSZ]; exact hZS) (fun _ _ => id))
        clear hw4 hSZ hmk hU hB
        go_wp2_with fail
        go_loopg [15] n (fun z c15 wr => ∃ (v : Nat) (s : Nat → Nat), z = n - v ∧ v ≤ n ∧ c15 = .int .i64 v ∧ Hid (Arr wr SZ 3 n (nv s)) ∧ Hid (∀ c, s c = cnt cp c v) ∧ Hid (Below Z w3 wr))
        case atStart => exact ⟨0, _, by omega, by omega, rfl, S4, fun c => rfl, B4⟩
        case round =>
          clear S4 B4
          obtain ⟨v, s, rfl, hv, rfl, hS, hs, hB⟩ := hrel
          by_cases hvn : v < n
          ·
            as_aux_lemma =>
              have hcl := HCL.out v hvn
              have x1 := RC.out wr hB.out v hvn
              obtain ⟨c, hc⟩ : ∃ c, c = cp v := ⟨_, rfl⟩
              rw [← hc] at x1 hcl
              have HC : Hid (c = cp v) := hc
              have x2 := hS.out.cell hcl
              have x3 := hS.out.free c
              have hsc : s c ≤ 8192 := by rw [hs.out]; exact Nat.le_trans (cnt_le _ _ _) (by omega)
              simp only [nv] at x2
              clear hc
              go_wp2_with fail
              go_roundg (n - (v + 1))
              case measure => omega
              case rel =>
                refine ⟨v + 1, upd s c (s c + 1), rfl, by omega, by go_num, ?_, fun c' => ?_, hB.out.trans ((Only.setCell wr ⟨SZ, c, none⟩ _).below (by have := hS.out.lt; omega) (fun y hy e => by
                  have e' : y = SZ := e
                  omega))⟩
                · have := hS.out.set c (.int .i64 ((s c + 1 : Nat) : Int))
                  rw [upd_nv] at this
                  exact this
                · simp only [upd, cnt]
                  by_cases e : c' = c
                  · rw [if_pos e, e, if_pos HC.out.symm, hs.out]
                  · rw [if_neg e, if_neg (fun e' => e (by rw [HC.out, e'])), hs.out]; omega
          · obtain rfl : n = v := by omega
            have hmk := run_make_edges la la (Nat.le_refl _) (by omega) wr
            go_upto_region 32 with fail
            obtain ⟨w5, hw5⟩ : ∃ w5 : World, w5 = wr := ⟨_, rfl⟩
            rw [← hw5] at hS hB
            obtain ⟨w6, hw6⟩ : ∃ w6 : World, w6 = wr.alloc (.cells (madeCells #[.string ⟨#[]⟩, .string ⟨#[]⟩] (la * 2)) 31) := ⟨_, rfl⟩
            rw [← hw6]
            obtain ⟨EB, hEB⟩ : ∃ EB, EB = wr.heap.size := ⟨_, rfl⟩
            rw [← hEB]
            have E6 : Hid (Arr w6 EB 31 (la * 2) (ev (upto 0 fa) (upto 0 fb))) := by rw [hw6, hEB]; exact made_edges _ _ _ _
            have O6 : Hid (Below EB w5 w6) := by rw [hw6, hEB, hw5]; exact (Only.alloc wr _ (fun _ => False)).below (Nat.le_refl _) (fun _ _ => id)
            have ZE : Hid (EB = w5.heap.size) := by rw [hw5]; exact hEB
            have hSE : SZ < EB := by rw [ZE.out]; exact hS.out.lt
            have R5 : Hid (∀ wr, Below EB w5 wr → Below Z w3 wr) := fun wr h => hB.out.trans (h.mono (by omega))
            have HS5 : Hid (∀ c, s c = cnt cp c n) := hs.out
            clear hw5 hw6 hEB hmk hs
            go_wp2_with fail
            go_loopg [17] la (fun z c17 wr => ∃ k : Nat, z = la - k ∧ k ≤ la ∧ c17 = .int .i64 k ∧ Hid (Arr wr EB 31 (la * 2) (ev (upto k fa) (upto k fb))) ∧ Hid (Below EB w5 wr))
            case atStart => exact ⟨0, by omega, by omega, rfl, E6, O6⟩
            case round =>
              clear E6 O6
              obtain ⟨k, rfl, hk, rfl, hE, hO⟩ := hrel
              by_cases hkm : k < la
              ·
                as_aux_lemma =>
                  obtain ⟨b1, o1, rfl, hb1, r1⟩ := HA.out.reads hkm
                  obtain ⟨b2, o2, rfl, hb2, r2⟩ := HB.out.reads hkm
                  have x0 := r1 wr (RW.out wr (R5.out wr hO.out))
                  have x1 := r2 wr (RW.out wr (R5.out wr hO.out))
                  have y0 := put2_cell k (.string (fa k)) (.string (fb k)) x0 (show b1 ≠ EB by omega)
                  have y1 := put2_cell k (.string (fa k)) (.string (fb k)) x1 (show b2 ≠ EB by omega)
                  have g0 := hE.out.cell (i := k * 2) (by omega)
                  have g1 := hE.out.cell (i := k * 2 + 1) (by omega)
                  have fg := fun i => hE.out.free i
                  clear r1 r2
                  simp only [sv] at x0 x1 y0 y1
                  go_upto_region 35 with fail
                  go_region_held3 (fun w' => w'.cell? ⟨b1, o1 + k, none⟩ = some (.string (fa k)) ∧ w'.cell? ⟨b2, o2 + k, none⟩ = some (.string (fb k))) (first
                    | exact ⟨x0, x1⟩
                    | exact ⟨y0, y1⟩) (fail)
                  generalize hw7 : World.drew _ = w7
                  have E7 : Hid (Arr w7 EB 31 (la * 2) (ev (upto (k + 1) fa) (upto (k + 1) fb))) := by
                    rw [← hw7, ← ev_put]
                    exact ((hE.out.set (k * 2) (.string (fa k))).set (k * 2 + 1) (.string (fb k))).drew
                  have O7 : Hid (Below EB w5 w7) := by
                    rw [← hw7]
                    exact hO.out.trans (((put2_only wr EB k (.string (fa k)) (.string (fb k))).trans (Only.drewN _ 1 _)).below (Nat.le_of_lt hE.out.lt) (fun y hy => by omega))
                  clear hw7 x0 x1 y0 y1 g0 g1 fg
                  go_wp2_with fail
                  go_roundg (la - (k + 1))
                  case measure => omega
                  case rel => exact ⟨k + 1, rfl, by omega, by go_num, E7, O7⟩
              · obtain rfl : la = k := by omega
                have EE : Hid (Arr wr EB 31 (la * 2) (ev fa fb)) := ev_full _ _ _ _ _ hE.out
                obtain ⟨w9, hw9⟩ : ∃ w9 : World, w9 = wr := ⟨_, rfl⟩
                rw [← hw9] at EE hO
                rw [← hw9]
                have S9 : Hid (Arr w9 SZ 3 n (nv s)) := hS.out.below hO.out hSE
                have B9 : Hid (Below Z w3 w9) := R5.out w9 hO.out
                have K9 : Hid (lk = 0 ∨ ∃ KB, ao = some ⟨KB, 0, none⟩ ∧ Arr w9 KB 4 lk (bv fk)) := by
                  rcases K3.out with h | ⟨KB, e1, e3⟩
                  · exact Or.inl h
                  · exact Or.inr ⟨KB, e1, e3.below B9.out (by rw [HZ.out]; exact e3.lt)⟩
                have HNK : Hid (∀ n' N' D', Made la fa fb n' N' D' → n' ≤ lk) := fun n' N' D' hm => by
                  have := (HNM.out.made' (fun s => Iff.rfl) hm).1
                  omega
                clear hw9 hE hO hS hB R5
                go_upto_region 37 with (
                  go_at_call 8
                  refine (zz_any h33 w9 EB la fa fb EE.out (by omega) HSZ.out ao lk kc fk K9.out HNK.out).mono ?_
                  rintro e w10 ⟨n1, G1, N1, D1, g1, v1, rfl, a1, a2, a3, a4, a5, a6⟩
                  have J1 : Hid (Made la fa fb n1 N1 D1 ∧ Gr n1 D1 g1 G1 ∧ (∀ u x, x ∈ D1 u → x < n1) ∧ Out w10 w9.heap.size v1 N1 (memb g1 n1) (order D1 g1 fk n1 G1) none ∧ Below w9.heap.size w9 w10) := ⟨a1, a2, a3, a5, a6⟩
                  clear a1 a2 a3 a4 a5 a6)
                have J3 : Hid (∃ ao1 c1 ln M, v1 = .slice ao1 ln c1 ∧ Gv w10 ao1 ln M f w9.heap.size ∧ Facts3 n la ln M x y cp fk) := by
                  obtain ⟨a1, a2, a3, a5, a6⟩ := J1.out
                  exact one3 HNM.out HXY.out a1 a2 a3 a5 HOO.out HCP.out HU.out
                have B10 : Hid (Below Z w3 w10) := B9.out.trans (J1.out.2.2.2.2.mono (by rw [HZ.out]; exact B9.out.size))
                have S10 : Hid (Arr w10 SZ 3 n (nv s)) := S9.out.below J1.out.2.2.2.2 S9.out.lt
                obtain ⟨ao1, c1, ln, M, rfl, V1, hF3⟩ := J3.out
                obtain ⟨gb1, V1⟩ := V1
                obtain ⟨PB, hPB⟩ : ∃ PB, PB = w10.heap.size := ⟨_, rfl⟩
                have HPB : Hid (PB = w10.heap.size) := hPB
                have HF3 : Hid (Facts3 n la ln M x y cp fk) := hF3
                have hln : ln ≤ n := hF3.le
                have T10 : Hid (∀ wr, Below PB w10 wr → Below Z w3 wr) := fun wr h => B10.out.trans (h.mono (by rw [HPB.out, HZ.out]; exact B10.out.size))
                have RS : Hid (∀ wr, Below PB w10 wr → ∀ c, c < n → wr.cell? ⟨SZ, c, none⟩ = some (.int .i64 ((cnt cp c n : Nat) : Int))) := fun wr h c hc => by
                  rw [(S10.out.below h (by rw [HPB.out]; exact S10.out.lt)).cell hc]
                  simp only [nv]
                  rw [HS5.out]
                have RV : Hid (∀ i, i < ln → ∃ g, ao1 = some ⟨g, 0, none⟩ ∧ ∀ wr, Below PB w10 wr → wr.cell? ⟨g, i, none⟩ = some (.slice (some ⟨gb1 i, 0, none⟩) (M i).length (M i).length) ∧ ∀ j, j < (M i).length → wr.cell? ⟨gb1 i, j, none⟩ = some (.string (f ((M i).getD j 0)))) := fun i hi => by
                  obtain ⟨g, e, _, _, h1, h2⟩ := V1 i hi
                  refine ⟨g, e, fun wr h => ⟨?_, fun j hj => ?_⟩⟩
                  · rw [h.cell (by rw [HPB.out]; exact World.block_lt_of_cell? w10 _ h1)]; exact h1
                  · rw [h.cell (by rw [HPB.out]; exact World.block_lt_of_cell? w10 _ (h2 j hj))]; exact h2 j hj
                have hZP : Z ≤ PB := by rw [hPB, HZ.out]; exact B10.out.size
                clear V1 hF3 J1 J3 K9 HNK EE B9 S9 hPB B0 hSE
                as_aux_lemma =>
                  have hmk := run_make_row' (P := Try.prog) 26 3 (.int .i64 0) 8 Try.underlying26 Try.info3 rfl .i64 .i64 n (by omega) (by omega) w10
                  have hgt1 : decide (n < ln) = false := by simp only [decide_eq_false_iff_not]; omega
                  go_upto_region 40 with fail
                  obtain ⟨w11, hw11⟩ : ∃ w11 : World, w11 = w10.alloc (.cells (madeCells #[.int .i64 0] n) 3) := ⟨_, rfl⟩
                  rw [← hw11, ← HPB.out]
                  have P11 : Hid (Arr w11 PB 3 n (iv (fun _ => 0))) := by rw [hw11, HPB.out]; exact made_at' w10 3 n (.int .i64 0)
                  have O11 : Hid (Below PB w10 w11) := by rw [hw11]; exact (Only.alloc w10 _ (fun _ => False)).below (by rw [HPB.out]; exact Nat.le_refl _) (fun _ _ => id)
                  clear hw11 hmk
                  go_wp2_with fail
                  go_loopg [20] n (fun z c20 wr => ∃ (v : Nat) (p : Nat → Int), z = n - v ∧ v ≤ n ∧ c20 = .int .i64 v ∧ Hid (Arr wr PB 3 n (iv p)) ∧ Hid (∀ u, u < v → p u = -1) ∧ Hid (Below PB w10 wr))
                  case atStart => exact ⟨0, _, by omega, by omega, rfl, P11, fun u hu => by omega, O11⟩
                  case round =>
                    clear P11 O11
                    obtain ⟨v, p, rfl, hv, rfl, hPp, hp1, hB⟩ := hrel
                    by_cases hvn : v < n
                    ·
                      as_aux_lemma =>
                        have x1 := hPp.out.cell hvn
                        have x2 := hPp.out.free v
                        go_wp2_with fail
                        go_roundg (n - (v + 1))
                        case measure => omega
                        case rel =>
                          refine ⟨v + 1, upd p v (-1), rfl, by omega, by go_num, ?_, fun u hu => ?_, hB.out.trans ((Only.setCell wr ⟨PB, v, none⟩ _).below (Nat.le_of_lt hPp.out.lt) (fun y hy e => by
                            have e' : y = PB := e
                            omega))⟩
                          · have := hPp.out.set v (.int .i64 (-1))
                            rw [upd_iv] at this
                            exact this
                          · by_cases e : u = v
                            · rw [e]; exact upd_same _ _ _
                            · rw [upd_other _ _ _ _ e]; exact hp1.out u (by omega)
                    · obtain rfl : n = v := by omega
                      have Q0 : Hid (Pos n M 0 0 p) := Pos.zero' hp1.out
                      have hmk := run_make_row' (P := Try.prog) 26 3 (.int .i64 0) 8 Try.underlying26 Try.info3 rfl .i64 .i64 ln (by omega) (by omega) wr
                      go_upto_region 45 with fail
                      obtain ⟨w12, hw12⟩ : ∃ w12 : World, w12 = wr.alloc (.cells (madeCells #[.int .i64 0] ln) 3) := ⟨_, rfl⟩
                      rw [← hw12]
                      obtain ⟨FR, hFR⟩ : ∃ FR, FR = wr.heap.size := ⟨_, rfl⟩
                      rw [← hFR]
                      have F12 : Hid (Arr w12 FR 3 ln (nv (fun _ => 0))) := by rw [hw12, hFR]; exact made_at' wr 3 ln (.int .i64 0)
                      have P12 : Hid (Arr w12 PB 3 n (iv p)) := by rw [hw12]; exact hPp.out.alloc _
                      have hPF : PB < FR := by rw [hFR]; exact hPp.out.lt
                      have O12 : Hid (Below PB w10 w12) := by rw [hw12]; exact hB.out.trans ((Only.alloc wr _ (fun _ => False)).below (by rw [← hFR]; omega) (fun _ _ => id))
                      clear hw12 hFR hmk hPp hp1 hB
                      go_wp2_with fail
                      go_loopg [22, 23, 24, 25, 26, 27] ln (fun z c22 c23 c24 c25 c26 c27 wr => ∃ (i : Nat) (p : Nat → Int) (fr : Nat → Nat) (u23 u24 u25 u26 u27 : Value), z = ln - i ∧ i ≤ ln ∧ c22 = .int .i64 i ∧ c23 = u23 ∧ c24 = u24 ∧ c25 = u25 ∧ c26 = u26 ∧ c27 = u27 ∧ Hid (Arr wr PB 3 n (iv p)) ∧ Hid (Arr wr FR 3 ln (nv fr)) ∧ Hid (Pos n M i 0 p) ∧ Hid (∀ i', i' < i → fr i' = (M i').getD 0 0) ∧ Hid (Below PB w10 wr))
                      case atStart => exact ⟨0, p, _, _, _, _, _, _, by omega, by omega, rfl, rfl, rfl, rfl, rfl, rfl, P12, F12, Q0, fun i' h => by omega, O12⟩
                      case round =>
                        clear P12 F12 Q0 O12
                        obtain ⟨i, p, fr, u23, u24, u25, u26, u27, rfl, hi, rfl, rfl, rfl, rfl, rfl, rfl, hPp, hFr, hQ, hfr, hB⟩ := hrel
                        by_cases hil : i < ln
                        ·
                          as_aux_lemma =>
                            obtain ⟨ga, rfl, rv⟩ := RV.out i hil
                            obtain ⟨l, hl⟩ : ∃ l, l = (M i).length := ⟨_, rfl⟩
                            obtain ⟨p1, hp1⟩ : ∃ p1, p1 = gb1 i := ⟨_, rfl⟩
                            rw [← hl, ← hp1] at rv
                            have LL : Hid (l = (M i).length) := hl
                            have RVi : Hid (∀ wr, Below PB w10 wr → wr.cell? ⟨ga, i, none⟩ = some (.slice (some ⟨p1, 0, none⟩) l l) ∧ ∀ j, j < l → wr.cell? ⟨p1, j, none⟩ = some (.string (f ((M i).getD j 0)))) := rv
                            have hl8 : l ≤ 8192 := by have := HF3.out.len i; omega
                            have hl0 : 0 < l := by rw [hl]; exact List.length_pos_iff.2 (HF3.out.parts.some_ i hil)
                            have l0 : ((l : Int) == 0) = false := by rw [beq_eq_false_iff_ne]; omega
                            clear rv hl hp1
                            have x1 := (RVi.out wr hB.out).1
                            go_wp2_with fail
                            clear x1
                            go_loopg [24, 25, 26, 27] l (fun z c24 c25 c26 c27 wr => ∃ (j : Nat) (pr cc : Int) (p : Nat → Int) (fr : Nat → Nat) (u27 : Value), z = l - j ∧ j ≤ l ∧ c24 = .int .i64 pr ∧ c25 = .int .i64 cc ∧ c26 = .int .i64 j ∧ c27 = u27 ∧ Hid (j = 0 → pr = -1) ∧ Hid (0 < j → pr = (((M i).getD (j - 1) 0 : Nat) : Int) ∧ cc = ((cp ((M i).getD 0 0) : Nat) : Int) ∧ fr i = (M i).getD 0 0) ∧ Hid (Arr wr PB 3 n (iv p)) ∧ Hid (Arr wr FR 3 ln (nv fr)) ∧ Hid (Pos n M i j p) ∧ Hid (∀ i', i' < i → fr i' = (M i').getD 0 0) ∧ Hid (Below PB w10 wr))
                            case atStart => exact ⟨0, -1, -1, p, fr, _, by omega, by omega, rfl, rfl, rfl, rfl, fun _ => rfl, fun h => by omega, hPp, hFr, hQ, hfr, hB⟩
                            case round =>
                              clear hPp hFr hQ hfr hB
                              obtain ⟨j, pr, cc, p, fr, u27, rfl, hj, rfl, rfl, rfl, rfl, h0, h1, hPp, hFr, hQ, hfr, hB⟩ := hrel
                              by_cases hjl : j < l
                              ·
                                as_aux_lemma =>
                                  have y1 := (RVi.out wr hB.out).2 j hjl
                                  obtain ⟨hx1, hx2, hx3⟩ := hQ.out.step HF3.out.parts hil (by rw [← LL.out]; exact hjl)
                                  have hmi : (M i).getD j 0 ∈ M i := getD_mem (by rw [← LL.out]; exact hjl)
                                  have hkx := HF3.out.kept i hil _ hmi
                                  have hpv : Hid (pr < (((M i).getD j 0 : Nat) : Int)) := by
                                    show _ < _
                                    rcases Nat.eq_zero_or_pos j with e | e
                                    · rw [h0.out e]; omega
                                    · rw [(h1.out e).1]
                                      have e1 : j - 1 < (M i).length := by rw [← LL.out]; omega
                                      have e2 : j < (M i).length := by rw [← LL.out]; omega
                                      have := List.pairwise_iff_getElem.1 (HF3.out.parts.up i hil) (j - 1) j e1 e2 (by omega)
                                      rw [List.getD_eq_getElem?_getD, List.getD_eq_getElem?_getD, List.getElem?_eq_getElem e1, List.getElem?_eq_getElem e2, Option.getD_some, Option.getD_some]
                                      omega
                                  have hsame : Hid (0 < j → cc = ((cp ((M i).getD j 0) : Nat) : Int)) := fun e => by
                                    rw [(h1.out e).2.1]
                                    exact congrArg (fun c : Nat => (c : Int)) (HF3.out.same i hil _ (getD_mem (by rw [← LL.out]; omega)) _ hmi)
                                  obtain ⟨v, hv⟩ : ∃ v, v = (M i).getD j 0 := ⟨_, rfl⟩
                                  rw [← hv] at y1 hx1 hx2 hx3 hkx hpv hsame
                                  have HV : Hid (v = (M i).getD j 0) := hv
                                  have HQ3 : Hid (Pos n M i (j + 1) (upd p v (i : Int))) := hx3
                                  obtain ⟨KB, rfl, rk⟩ := RK.out v hx1
                                  have k1 := rk wr (T10.out wr hB.out) v hx1
                                  rw [hkx] at k1
                                  have c1 := RC.out wr (T10.out wr hB.out) v hx1
                                  have q1 := hPp.out.cell hx1
                                  have q2 := hPp.out.free v
                                  simp only [iv, hx2] at q1
                                  have hvk : v < lk := by omega
                                  have g1 : decide ((v : Int) < 0) = false := by simp
                                  have g2 : decide ((v : Int) ≤ pr) = false := by
                                    have := hpv.out
                                    simp only [decide_eq_false_iff_not]
                                    omega
                                  have g3 : ¬ ((v : Int) ≤ pr) := by have := hpv.out; omega
                                  obtain ⟨cv, hcv⟩ : ∃ cv, cv = cp v := ⟨_, rfl⟩
                                  rw [← hcv] at c1
                                  have HCV : Hid (cv = cp v) := hcv
                                  have NN : Hid (∀ k, k < n → wr.cell? ⟨NB, k, none⟩ = some (.string (f k))) := RN.out wr (T10.out wr hB.out)
                                  clear hv hx2 hx3 hkx rk hcv hmi
                                  by_cases hj0 : j = 0
                                  · obtain rfl := hj0.symm
                                    have f1 := hFr.out.cell hil
                                    have f2 := hFr.out.free i
                                    have P5 : Hid (Arr (wr.setCell ⟨FR, i, none⟩ (.int .i64 (v : Nat))) PB 3 n (iv p)) := hPp.out.other (a := ⟨FR, i, none⟩) (by simp only; omega) _
                                    have q3 := P5.out.cell hx1
                                    have q4 := P5.out.free v
                                    go_wp2_with (
                                      go_at_call 9
                                      refine (find_hit wr NB n nc f v hx1 (by omega) NN.out HNM.out.rises).mono ?_
                                      rintro e w' ⟨rfl, hw⟩
                                      obtain rfl := hw.symm)
                                    obtain ⟨w13, hw13⟩ : ∃ w13 : World, w13 = (wr.setCell ⟨FR, i, none⟩ (.int .i64 (v : Nat))).setCell ⟨PB, v, none⟩ (.int .i64 (i : Nat)) := ⟨_, rfl⟩
                                    rw [← hw13]
                                    have P6 : Hid (Arr w13 PB 3 n (iv (upd p v (i : Int)))) := by
                                      rw [hw13, ← upd_iv]
                                      exact P5.out.set v _
                                    have F6 : Hid (Arr w13 FR 3 ln (nv (upd fr i v))) := by
                                      rw [hw13, ← upd_nv]
                                      exact (hFr.out.set i _).other (a := ⟨PB, v, none⟩) (by simp only; omega) _
                                    have B6 : Hid (Below PB w10 w13) := by
                                      rw [hw13]
                                      exact hB.out.trans (Only.below (S := fun y => y = FR ∨ y = PB) ((Only.put1' _ wr FR i _ (Or.inl rfl)).trans (Only.put1' _ _ PB v _ (Or.inr rfl))) (Nat.le_of_lt hPp.out.lt) (fun y hy e => by omega))
                                    clear hw13
                                    go_roundg (l - (0 + 1))
                                    case measure => omega
                                    case rel =>
                                      refine ⟨0 + 1, _, _, upd p v (i : Int), upd fr i v, _, rfl, by omega, rfl, rfl, by go_num, rfl, fun h => by omega, fun _ => ⟨by rw [HV.out], by rw [HCV.out, HV.out], by rw [upd_same, HV.out]⟩, P6, F6, HQ3, fun i' h => ?_, B6⟩
                                      rw [upd_other _ _ _ _ (by omega)]; exact hfr.out i' h
                                  · have hj1 : ((j : Int) == 0) = false := by rw [beq_eq_false_iff_ne]; omega
                                    have ecc : cc = (cv : Int) := by rw [HCV.out]; exact hsame.out (by omega)
                                    have HJ0 : Hid (0 < j) := by show 0 < j; omega
                                    obtain rfl := ecc.symm
                                    go_wp2_with (
                                      go_at_call 9
                                      refine (find_hit wr NB n nc f v hx1 (by omega) NN.out HNM.out.rises).mono ?_
                                      rintro e w' ⟨rfl, hw⟩
                                      obtain rfl := hw.symm)
                                    obtain ⟨w13, hw13⟩ : ∃ w13 : World, w13 = wr.setCell ⟨PB, v, none⟩ (.int .i64 (i : Nat)) := ⟨_, rfl⟩
                                    rw [← hw13]
                                    have P6 : Hid (Arr w13 PB 3 n (iv (upd p v (i : Int)))) := by
                                      rw [hw13, ← upd_iv]
                                      exact hPp.out.set v _
                                    have F6 : Hid (Arr w13 FR 3 ln (nv fr)) := by rw [hw13]; exact hFr.out.other (a := ⟨PB, v, none⟩) (by simp only; omega) _
                                    have B6 : Hid (Below PB w10 w13) := by
                                      rw [hw13]
                                      exact hB.out.trans ((Only.setCell wr ⟨PB, v, none⟩ _).below (Nat.le_of_lt hPp.out.lt) (fun y hy e => by
                                        have e' : y = PB := e
                                        omega))
                                    clear hw13
                                    go_roundg (l - (j + 1))
                                    case measure => omega
                                    case rel =>
                                      have hh := h1.out HJ0.out
                                      exact ⟨j + 1, _, _, upd p v (i : Int), fr, _, rfl, by omega, rfl, rfl, by go_num, rfl, fun h => by omega, fun _ => ⟨by rw [Nat.add_sub_cancel, ← HV.out], hh.2.1, hh.2.2⟩, P6, F6, HQ3, hfr, B6⟩
                              ·
                                as_aux_lemma =>
                                  obtain rfl : l = j := by omega
                                  obtain ⟨e1, e2, e3⟩ := h1.out hl0
                                  have hm0 : (M i).getD 0 0 ∈ M i := getD_mem (by rw [← LL.out]; exact hl0)
                                  have hlt := HF3.out.parts.lt i hil _ hm0
                                  have hsz := HF3.out.size i hil _ hm0
                                  rw [← LL.out] at hsz
                                  obtain ⟨c0, hc0⟩ : ∃ c0, c0 = cp ((M i).getD 0 0) := ⟨_, rfl⟩
                                  have hcl := HCL.out _ hlt
                                  rw [← hc0] at e2 hsz hcl
                                  have s1 := RS.out wr hB.out c0 hcl
                                  rw [← hsz] at s1
                                  obtain rfl := e2.symm
                                  have E3 : Hid (fr i = (M i).getD 0 0) := e3
                                  have Q9 : Hid (Pos n M (i + 1) 0 p) := by
                                    have := hQ.out
                                    rw [LL.out] at this
                                    exact this.next
                                  clear e1 e3 hsz hc0 hm0 hlt
                                  go_wp2_with fail
                                  go_roundg (ln - (i + 1))
                                  case measure => omega
                                  case rel => exact ⟨i + 1, p, fr, _, _, _, _, _, rfl, by omega, by go_num, rfl, rfl, rfl, rfl, rfl, hPp, hFr, Q9, fun i' h => (by
                                    by_cases e : i' = i
                                    · rw [e]; exact E3.out
                                    · exact hfr.out i' (by omega)), hB⟩
                        · obtain rfl : ln = i := by omega
                          as_aux_lemma =>
                            have HQ : Hid (Pos n M ln 0 p) := hQ.out
                            have HFR : Hid (∀ i', i' < ln → fr i' = (M i').getD 0 0) := hfr.out
                            obtain ⟨w14, hw14⟩ : ∃ w14 : World, w14 = wr := ⟨_, rfl⟩
                            rw [← hw14] at hPp hFr hB
                            rw [← hw14]
                            clear hw14 hQ hfr
                            have hFl : Hid (FR < w14.heap.size) := hFr.out.lt
                            obtain ⟨B2, hB2⟩ : ∃ B2, B2 = w14.heap.size := ⟨_, rfl⟩
                            have HB2 : Hid (B2 = w14.heap.size) := hB2
                            have T14 : Hid (∀ wr, Below B2 w14 wr → Below PB w10 wr) := fun wr h => hB.out.trans (h.mono (by rw [HB2.out]; exact Nat.le_of_lt hPp.out.lt))
                            have RP : Hid (∀ wr, Below B2 w14 wr → ∀ v, v < n → wr.cell? ⟨PB, v, none⟩ = some (.int .i64 (p v))) := fun wr h v hv => (hPp.out.below h (by rw [HB2.out]; exact hPp.out.lt)).cell hv
                            have RR : Hid (∀ wr, Below B2 w14 wr → ∀ i, i < ln → wr.cell? ⟨FR, i, none⟩ = some (.int .i64 (((M i).getD 0 0 : Nat) : Int))) := fun wr h i hi => by
                              rw [(hFr.out.below h (by rw [HB2.out]; exact hFr.out.lt)).cell hi]
                              simp only [nv]
                              rw [HFR.out i hi]
                            have B14 : Hid (Below B2 w14 w14) := Below.refl _ _
                            have hd14 : Hid (∀ wr, Below B2 w14 wr → Below B2 w14 wr.drew) := fun wr h => h.trans ((Only.drewN wr 1 (fun _ => False)).below (by rw [HB2.out]; exact h.size) (fun _ _ => id))
                            have hd15 : Hid (∀ wr q, Below B2 w14 wr → Below B2 w14 (wr.drewN q)) := fun wr q h => h.trans ((Only.drewN wr q (fun _ => False)).below (by rw [HB2.out]; exact h.size) (fun _ _ => id))
                            have hPB2 : PB < B2 := by rw [hB2]; exact hPp.out.lt
                            clear hB2 hPp hFr hB hFl HFR
                            go_wp2_with fail
                            go_loopg [28] n (fun z c28 wr => ∃ (v : Nat), z = n - v ∧ v ≤ n ∧ c28 = .int .i64 v ∧ Hid (Below B2 w14 wr))
                            case atStart => exact ⟨0, by omega, by omega, rfl, B14⟩
                            case round =>
                              obtain ⟨v, rfl, hv, rfl, hB⟩ := hrel
                              by_cases hvn : v < n
                              ·
                                as_aux_lemma =>
                                  obtain ⟨KB, rfl, rk⟩ := RK.out v hvn
                                  have k1 := rk wr (T10.out wr (T14.out wr hB.out)) v hvn
                                  have q1 := RP.out wr hB.out v hvn
                                  have hvk : v < lk := by omega
                                  clear rk
                                  cases hkv : fk v with
                                  | false =>
                                    rw [hkv] at k1
                                    clear hkv
                                    go_wp2_with fail
                                    go_roundg (n - (v + 1))
                                    case measure => omega
                                    case rel => exact ⟨v + 1, rfl, by omega, by go_num, hB⟩
                                  | true =>
                                    obtain ⟨i, hi, hm⟩ := HF3.out.all v hvn hkv
                                    rw [(HQ.out v hvn).1 i hi hm] at q1
                                    rw [hkv] at k1
                                    have g1 : decide ((i : Int) < 0) = false := by simp
                                    clear hkv hm
                                    go_wp2_with fail
                                    go_roundg (n - (v + 1))
                                    case measure => omega
                                    case rel => exact ⟨v + 1, rfl, by omega, by go_num, hB⟩
                              · obtain rfl : n = v := by omega
                                have hmk := run_make_row' (P := Try.prog) 26 3 (.int .i64 0) 8 Try.underlying26 Try.info3 rfl .i64 .i64 ln (by omega) (by omega) wr
                                go_upto_region 74 with fail
                                obtain ⟨w15, hw15⟩ : ∃ w15 : World, w15 = wr.alloc (.cells (madeCells #[.int .i64 0] ln) 3) := ⟨_, rfl⟩
                                rw [← hw15]
                                obtain ⟨LT, hLT⟩ : ∃ LT, LT = wr.heap.size := ⟨_, rfl⟩
                                rw [← hLT]
                                have L15 : Hid (Arr w15 LT 3 ln (iv (fun _ => 0))) := by rw [hw15, hLT]; exact made_at' wr 3 ln (.int .i64 0)
                                have hBL : B2 ≤ LT := by rw [hLT, HB2.out]; exact hB.out.size
                                have O15 : Hid (Below B2 w14 w15) := by rw [hw15]; exact hB.out.trans ((Only.alloc wr _ (fun _ => False)).below (by rw [← hLT]; exact hBL) (fun _ _ => id))
                                clear hw15 hLT hmk hB
                                go_wp2_with fail
                                go_loopg [30] ln (fun z c30 wr => ∃ (j : Nat) (lt : Nat → Int), z = ln - j ∧ j ≤ ln ∧ c30 = .int .i64 j ∧ Hid (Arr wr LT 3 ln (iv lt)) ∧ Hid (∀ u, u < j → lt u = -1) ∧ Hid (Below B2 w14 wr))
                                case atStart => exact ⟨0, _, by omega, by omega, rfl, L15, fun u hu => by omega, O15⟩
                                case round =>
                                  clear L15 O15
                                  obtain ⟨j, lt, rfl, hj, rfl, hL, hl1, hB⟩ := hrel
                                  by_cases hjl : j < ln
                                  ·
                                    as_aux_lemma =>
                                      have x1 := hL.out.cell hjl
                                      have x2 := hL.out.free j
                                      go_wp2_with fail
                                      go_roundg (ln - (j + 1))
                                      case measure => omega
                                      case rel =>
                                        refine ⟨j + 1, upd lt j (-1), rfl, by omega, by go_num, ?_, fun u hu => ?_, hB.out.trans ((Only.setCell wr ⟨LT, j, none⟩ _).below (by have := hL.out.lt; omega) (fun y hy e => by
                                          have e' : y = LT := e
                                          omega))⟩
                                        · have := hL.out.set j (.int .i64 (-1))
                                          rw [upd_iv] at this
                                          exact this
                                        · by_cases e : u = j
                                          · rw [e]; exact upd_same _ _ _
                                          · rw [upd_other _ _ _ _ e]; exact hl1.out u (by omega)
                                  · obtain rfl : ln = j := by omega
                                    have Q0 : Hid (Lat ln 0 M x y cp fk lt) := Lat.zero' hl1.out
                                    clear hl1
                                    go_wp2_with fail
                                    go_loopg [31, 32, 33] la (fun z c31 c32 c33 wr => ∃ (k : Nat) (lt : Nat → Int) (u32 u33 : Value), z = la - k ∧ k ≤ la ∧ c31 = .int .i64 k ∧ c32 = u32 ∧ c33 = u33 ∧ Hid (Arr wr LT 3 ln (iv lt)) ∧ Hid (Lat ln k M x y cp fk lt) ∧ Hid (Below B2 w14 wr))
                                    case atStart => exact ⟨0, lt, _, _, by omega, by omega, rfl, rfl, rfl, hL, Q0, hB⟩
                                    case round =>
                                      clear hL Q0 hB
                                      obtain ⟨k, lt, u32, u33, rfl, hk, rfl, rfl, rfl, hL, hLat, hB⟩ := hrel
                                      by_cases hkl : k < la
                                      ·
                                        as_aux_lemma =>
                                          have T0 := T10.out wr (T14.out wr hB.out)
                                          have x1 := RF.out wr T0 k hkl
                                          have x2 := RT.out wr T0 k hkl
                                          obtain ⟨hd1, _, ht1, _⟩ := HXY.out k hkl
                                          obtain ⟨KB, rfl, rk⟩ := RK.out (x k) hd1
                                          have k1 := rk wr T0 (x k) hd1
                                          have k2 := rk wr T0 (y k) ht1
                                          have c1 := RC.out wr T0 (x k) hd1
                                          have c2 := RC.out wr T0 (y k) ht1
                                          have q1 := RP.out wr hB.out (x k) hd1
                                          have q2 := RP.out wr hB.out (y k) ht1
                                          obtain ⟨d, hd⟩ : ∃ d, d = x k := ⟨_, rfl⟩
                                          obtain ⟨t, ht⟩ : ∃ t, t = y k := ⟨_, rfl⟩
                                          rw [← hd] at x1 k1 c1 q1 hd1
                                          rw [← ht] at x2 k2 c2 q2 ht1
                                          have HD : Hid (d = x k) := hd
                                          have HT : Hid (t = y k) := ht
                                          have hdk : d < lk := by omega
                                          have htk : t < lk := by omega
                                          clear rk hd ht T0
                                          have hskip : Hid (¬ (fk d = true ∧ fk t = true ∧ cp d ≠ cp t) → Lat ln (k + 1) M x y cp fk lt) := fun h => hLat.out.skip (by rw [← HD.out, ← HT.out]; exact h)
                                          cases hkd : fk d with
                                          | false =>
                                            rw [hkd] at k1
                                            have N1 : Hid (Lat ln (k + 1) M x y cp fk lt) := hskip.out (by rw [hkd]; simp)
                                            clear hkd
                                            go_upto_region 83 with fail
                                            go_quiet (fail)
                                            have HB1 : Hid (Below B2 w14 (wr.drewN nq)) := hd15.out wr nq hB.out
                                            have HL1 : Hid (Arr (wr.drewN nq) LT 3 ln (iv lt)) := hL.out.drewN nq
                                            go_wp2_with fail
                                            go_roundg (la - (k + 1))
                                            case measure => omega
                                            case rel => exact ⟨k + 1, lt, _, _, rfl, by omega, by go_num, rfl, rfl, HL1, N1, HB1⟩
                                          | true =>
                                            rw [hkd] at k1
                                            cases hkt : fk t with
                                            | false =>
                                              rw [hkt] at k2
                                              have N1 : Hid (Lat ln (k + 1) M x y cp fk lt) := hskip.out (by rw [hkt]; simp)
                                              clear hkd hkt
                                              go_upto_region 83 with fail
                                              go_quiet (fail)
                                              have HB1 : Hid (Below B2 w14 (wr.drewN nq)) := hd15.out wr nq hB.out
                                              have HL1 : Hid (Arr (wr.drewN nq) LT 3 ln (iv lt)) := hL.out.drewN nq
                                              go_wp2_with fail
                                              go_roundg (la - (k + 1))
                                              case measure => omega
                                              case rel => exact ⟨k + 1, lt, _, _, rfl, by omega, by go_num, rfl, rfl, HL1, N1, HB1⟩
                                            | true =>
                                              rw [hkt] at k2
                                              by_cases hcc : cp d = cp t
                                              · have N1 : Hid (Lat ln (k + 1) M x y cp fk lt) := hskip.out (by rw [hcc]; simp)
                                                rw [← hcc] at c2
                                                obtain ⟨cv, hcv⟩ : ∃ cv, cv = cp d := ⟨_, rfl⟩
                                                rw [← hcv] at c1 c2
                                                clear hkd hkt hcc hcv
                                                go_upto_region 83 with fail
                                                go_quiet (fail)
                                                have HB1 : Hid (Below B2 w14 (wr.drewN nq)) := hd15.out wr nq hB.out
                                                have HL1 : Hid (Arr (wr.drewN nq) LT 3 ln (iv lt)) := hL.out.drewN nq
                                                go_wp2_with fail
                                                go_roundg (la - (k + 1))
                                                case measure => omega
                                                case rel => exact ⟨k + 1, lt, _, _, rfl, by omega, by go_num, rfl, rfl, HL1, N1, HB1⟩
                                              ·
                                                as_aux_lemma =>
                                                  obtain ⟨i, hi, hmi⟩ := HF3.out.all d hd1 hkd
                                                  obtain ⟨j, hj, hmj⟩ := HF3.out.all t ht1 hkt
                                                  have hij : i < j := HF3.out.after k hkl i j hi hj (by rw [← HD.out]; exact hmi) (by rw [← HT.out]; exact hmj) (by rw [← HD.out, ← HT.out]; exact hcc)
                                                  rw [(HQ.out d hd1).1 i hi hmi] at q1
                                                  rw [(HQ.out t ht1).1 j hj hmj] at q2
                                                  have HMI : Hid (x k ∈ M i) := by rw [← HD.out]; exact hmi
                                                  have HMJ : Hid (y k ∈ M j) := by rw [← HT.out]; exact hmj
                                                  obtain ⟨cv, hcv⟩ : ∃ cv, cv = cp d := ⟨_, rfl⟩
                                                  obtain ⟨ct, hct⟩ : ∃ ct, ct = cp t := ⟨_, rfl⟩
                                                  rw [← hcv] at c1
                                                  rw [← hct] at c2
                                                  rw [← hcv, ← hct] at hcc
                                                  have hne : ((cv : Int) == (ct : Int)) = false := by rw [beq_eq_false_iff_ne]; omega
                                                  clear hkd hkt hcv hct hmi hmj
                                                  go_upto_region 83 with fail
                                                  go_quiet (fail)
                                                  obtain ⟨w16, hw16⟩ : ∃ w16 : World, w16 = wr.drewN nq := ⟨_, rfl⟩
                                                  rw [← hw16]
                                                  have HB1 : Hid (Below B2 w14 w16) := by rw [hw16]; exact hd15.out wr nq hB.out
                                                  have HL1 : Hid (Arr w16 LT 3 ln (iv lt)) := by rw [hw16]; exact hL.out.drewN nq
                                                  have hji : ¬ (j : Int) ≤ (i : Int) := by omega
                                                  have hji1 : decide (j ≤ i) = false := by simp only [decide_eq_false_iff_not]; omega
                                                  have q1' : w16.cell? ⟨PB, d, none⟩ = some (.int .i64 (i : Nat)) := by rw [hw16]; exact q1
                                                  have q2' : w16.cell? ⟨PB, t, none⟩ = some (.int .i64 (j : Nat)) := by rw [hw16]; exact q2
                                                  have l1 := HL1.out.cell hj
                                                  have l2 := HL1.out.free j
                                                  clear hw16 x1 x2 k1 k2 c1 c2 q1 q2 hL hB
                                                  go_upto_region 84 with fail
                                                  go_region_held3 (fun w' => w'.cell? ⟨PB, d, none⟩ = some (.int .i64 ((i : Nat) : Int)) ∧ w'.cell? ⟨PB, t, none⟩ = some (.int .i64 ((j : Nat) : Int))) (exact ⟨q1', q2'⟩) (fail)
                                                  have HB2' : Hid (Below B2 w14 w16.drew) := hd14.out w16 HB1.out
                                                  have HL2 : Hid (Arr w16.drew LT 3 ln (iv lt)) := HL1.out.drew
                                                  have q3 : w16.drew.cell? ⟨PB, d, none⟩ = some (.int .i64 ((i : Nat) : Int)) := q1'
                                                  have q4 : w16.drew.cell? ⟨PB, t, none⟩ = some (.int .i64 ((j : Nat) : Int)) := q2'
                                                  generalize hw17 : World.drew w16 = w17 at *
                                                  have l3 := HL2.out.cell hj
                                                  simp only [iv] at l3
                                                  clear hw17 l1 l2 q1' q2' HB1 HL1 hji hji1
                                                  by_cases hgt : lt j < (i : Int)
                                                  ·
                                                    as_aux_lemma =>
                                                      have hgt1 : decide (lt j < (i : Int)) = true := by simpa using hgt
                                                      have N1 : Hid (Lat ln (k + 1) M x y cp fk (upd lt j (i : Int))) := hLat.out.put HF3.out.parts hi hj HMI.out HMJ.out hgt
                                                      go_upto_region 86 with fail
                                                      go_region_held3 (fun w' => w'.cell? ⟨PB, d, none⟩ = some (.int .i64 ((i : Nat) : Int)) ∧ w'.cell? ⟨PB, t, none⟩ = some (.int .i64 ((j : Nat) : Int)) ∧ w'.cell? ⟨LT, j, none⟩ = some (.int .i64 (lt j))) (exact ⟨q3, q4, l3⟩) (fail)
                                                      have HB3' : Hid (Below B2 w14 w17.drew) := hd14.out w17 HB2'.out
                                                      have HL3 : Hid (Arr w17.drew LT 3 ln (iv lt)) := HL2.out.drew
                                                      have q5 : w17.drew.cell? ⟨PB, d, none⟩ = some (.int .i64 ((i : Nat) : Int)) := q3
                                                      have q6 : w17.drew.cell? ⟨PB, t, none⟩ = some (.int .i64 ((j : Nat) : Int)) := q4
                                                      generalize hw18 : World.drew w17 = w18 at *
                                                      have l4 := HL3.out.cell hj
                                                      have l5 := HL3.out.free j
                                                      have hpl : PB ≠ LT := by omega
                                                      have OO : Hid (Only (fun y => y = LT) w18 (w18.setCell ⟨LT, j, none⟩ (.int .i64 ((i : Nat) : Int)))) := Only.setCell w18 ⟨LT, j, none⟩ _
                                                      have q7 := OO.out.cell_ q5 hpl
                                                      have q8 := OO.out.cell_ q6 hpl
                                                      clear hw18 q3 q4 l3 HB2' HL2
                                                      go_upto_region 87 with fail
                                                      go_region_held3 (fun w' => w'.cell? ⟨PB, d, none⟩ = some (.int .i64 ((i : Nat) : Int)) ∧ w'.cell? ⟨PB, t, none⟩ = some (.int .i64 ((j : Nat) : Int))) (first
                                                        | exact ⟨q5, q6⟩
                                                        | exact ⟨q7, q8⟩) (fail)
                                                      generalize hw19 : World.drew _ = w19
                                                      have L9 : Hid (Arr w19 LT 3 ln (iv (upd lt j (i : Int)))) := by
                                                        rw [← hw19, ← upd_iv]
                                                        exact (HL3.out.set j _).drew
                                                      have B9 : Hid (Below B2 w14 w19) := by
                                                        rw [← hw19]
                                                        exact HB3'.out.trans ((OO.out.trans (Only.drewN _ 1 _)).below (by have := HL3.out.lt; omega) (fun y hy e => by
                                                          have e' : y = LT := e
                                                          omega))
                                                      clear hw19 q5 q6 q7 q8 l4 l5 OO
                                                      go_wp2_with fail
                                                      go_roundg (la - (k + 1))
                                                      case measure => omega
                                                      case rel => exact ⟨k + 1, _, _, _, rfl, by omega, by go_num, rfl, rfl, L9, N1, B9⟩
                                                  ·
                                                    as_aux_lemma =>
                                                      have hgt1 : decide (lt j < (i : Int)) = false := by simpa using hgt
                                                      have N1 : Hid (Lat ln (k + 1) M x y cp fk lt) := hLat.out.pass HF3.out.parts hi hj HMI.out HMJ.out (by omega)
                                                      go_upto_region 86 with fail
                                                      go_region_held3 (fun w' => w'.cell? ⟨PB, d, none⟩ = some (.int .i64 ((i : Nat) : Int)) ∧ w'.cell? ⟨PB, t, none⟩ = some (.int .i64 ((j : Nat) : Int)) ∧ w'.cell? ⟨LT, j, none⟩ = some (.int .i64 (lt j))) (exact ⟨q3, q4, l3⟩) (fail)
                                                      have HB3' : Hid (Below B2 w14 w17.drew) := hd14.out w17 HB2'.out
                                                      have HL3 : Hid (Arr w17.drew LT 3 ln (iv lt)) := HL2.out.drew
                                                      generalize hw18 : World.drew w17 = w18 at *
                                                      clear hw18 q3 q4 l3 HB2' HL2
                                                      go_wp2_with fail
                                                      go_roundg (la - (k + 1))
                                                      case measure => omega
                                                      case rel => exact ⟨k + 1, lt, _, _, rfl, by omega, by go_num, rfl, rfl, HL3, N1, HB3'⟩
                                      · obtain rfl : la = k := by omega
                                        as_aux_lemma =>
                                          have HLat : Hid (Lat ln la M x y cp fk lt) := hLat.out
                                          clear hLat
                                          go_wp2_with fail
                                          go_loopg [34, 35] ln (fun z c34 c35 wr => ∃ (j : Nat) (u35 : Value), z = ln - j ∧ j ≤ ln ∧ c34 = .int .i64 j ∧ c35 = u35 ∧ Hid (Arr wr LT 3 ln (iv lt)) ∧ Hid (Below B2 w14 wr))
                                          case atStart => exact ⟨0, _, by omega, by omega, rfl, rfl, hL, hB⟩
                                          case round =>
                                            clear hL hB
                                            obtain ⟨j, u35, rfl, hj, rfl, rfl, hL, hB⟩ := hrel
                                            by_cases hjl : j < ln
                                            · have l1 := hL.out.cell hjl
                                              have hbd := HLat.out.1 j hjl
                                              obtain ⟨e, he⟩ : ∃ e : Nat, lt j = (e : Int) - 1 := ⟨(lt j + 1).toNat, by omega⟩
                                              simp only [iv, he] at l1
                                              have HE : Hid (lt j = (e : Int) - 1) := he
                                              have he2 : e ≤ 8193 := by omega
                                              clear he hbd
                                              go_wp2_with fail
                                              go_loopg [35] (j - e) (fun z c35 wr => ∃ (i : Nat), z = j - i ∧ e ≤ i ∧ c35 = .int .i64 i ∧ Hid (Arr wr LT 3 ln (iv lt)) ∧ Hid (Below B2 w14 wr))
                                              case atStart => exact ⟨e, rfl, by omega, by go_num, hL, hB⟩
                                              case round =>
                                                clear hL hB l1
                                                obtain ⟨i, rfl, hei, rfl, hL, hB⟩ := hrel
                                                by_cases hij : i < j
                                                · have r1 := RR.out wr hB.out i (by omega)
                                                  have r2 := RR.out wr hB.out j hjl
                                                  have hle := HLat.out.done HF3.out (fun k hk => (HXY.out k hk).1) hjl hij (by rw [HE.out]; omega)
                                                  obtain ⟨a, ha⟩ : ∃ a, a = (M i).getD 0 0 := ⟨_, rfl⟩
                                                  obtain ⟨b, hb⟩ : ∃ b, b = (M j).getD 0 0 := ⟨_, rfl⟩
                                                  rw [← ha] at r1 hle
                                                  rw [← hb] at r2 hle
                                                  have hil : i < ln := by omega
                                                  have hab : decide (b < a) = false := by simp only [decide_eq_false_iff_not]; omega
                                                  clear ha hb
                                                  go_upto_region 94 with fail
                                                  go_region_held3 (fun w' => w'.cell? ⟨FR, i, none⟩ = some (.int .i64 ((a : Nat) : Int)) ∧ w'.cell? ⟨FR, j, none⟩ = some (.int .i64 ((b : Nat) : Int))) (exact ⟨r1, r2⟩) (fail)
                                                  have HB1 : Hid (Below B2 w14 wr.drew) := hd14.out wr hB.out
                                                  have HL1 : Hid (Arr wr.drew LT 3 ln (iv lt)) := hL.out.drew
                                                  generalize hw20 : World.drew wr = w20 at *
                                                  clear hw20 r1 r2 hL hB
                                                  go_wp2_with fail
                                                  go_roundg (j - (i + 1))
                                                  case measure => omega
                                                  case rel => exact ⟨i + 1, rfl, by omega, by go_num, HL1, HB1⟩
                                                · go_wp2_with fail
                                                  go_roundg (ln - (j + 1))
                                                  case measure => omega
                                                  case rel => exact ⟨j + 1, _, rfl, by omega, by go_num, rfl, hL, hB⟩
                                            · obtain rfl : ln = j := by omega
                                              go_wp2_with fail
                                              go_ret
                                              exact ⟨rfl, RW.out _ (T10.out _ (T14.out _ hB.out))⟩
end Go.Proofs.Qxb6616383a
