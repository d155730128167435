/-
  The walk of zzb1Reach: the bit sets of what each name reaches.
-/
import Derived.Test.Qxb6616383aBits
import Derived.Test.Qxb6616383aFlood
import Derived.Test.Qxb6616383aEdges
namespace Go.Proofs.Qxb6616383a
open Go.RowKit
open Plain
theorem Try.info59 : (Try.prog.info? 59).map (fun i => (i.zero, i.size, i.bytes)) = some (some (.int .u64 0), 1, 8) := by kernel_rfl
theorem run_make_stack (n : Nat) (hn : n ≤ 100000) (w : World) : (Instr.makeSlice 26 (.int .i64 0) (.int .i64 (n : Int))).run Try.prog w = .ok (.slice (some ⟨w.heap.size, 0, none⟩) 0 n) (w.alloc (.cells (madeCells #[.int .i64 0] n) 3)) := by
  obtain ⟨i, hi, hz, hs, hb⟩ := info_parts Try.info3
  have hb' : (i.bytes : Int) * (n : Int) ≤ 281474976710656 := by rw [hb]; omega
  have hr := run_make (P := Try.prog) w 26 3 i _ Try.underlying26 hi hz .i64 .i64 0 n (by omega) (by omega) hb' (by omega)
  simp only [Int.toNat_natCast, hs, Nat.mul_one] at hr
  exact hr
/-- The rows of numbers that a slice of slices holds. -/
def LV (w : World) (OB n : Nat) (O : Nat → List Nat) : Prop := ∀ v, v < n → ∃ ao c, w.cell? ⟨OB, v, none⟩ = some (.slice ao (O v).length c) ∧ ∀ j, j < (O v).length → ∃ g, ao = some ⟨g, 0, none⟩ ∧ w.cell? ⟨g, j, none⟩ = some (.int .i64 (((O v).getD j 0 : Nat) : Int))
theorem LV.only {S : Nat → Prop} {w w' : World} {OB n : Nat} {O : Nat → List Nat} (h : LV w OB n O) (ho : Only S w w') (hS : ∀ k, k < w.heap.size → ¬ S k) : LV w' OB n O := fun v hv => by
  obtain ⟨ao, c, h1, h2⟩ := h v hv
  refine ⟨ao, c, ho.cell_ h1 (hS _ (World.block_lt_of_cell? w _ h1)), fun j hj => ?_⟩
  obtain ⟨g, e, h3⟩ := h2 j hj
  exact ⟨g, e, ho.cell_ h3 (hS _ (World.block_lt_of_cell? w _ h3))⟩
def lst (q : Nat → Nat) (t : Nat) : List Nat := (List.range t).map q
theorem lst_succ (q : Nat → Nat) (t : Nat) : lst q (t + 1) = lst q t ++ [q t] := by simp [lst, List.range_succ]
theorem lst_upd (q : Nat → Nat) (t x : Nat) : lst (upd q t x) (t + 1) = lst q t ++ [x] := by
  rw [lst_succ, upd_same]
  congr 1
  exact List.map_congr_left (fun i hi => upd_other _ _ _ _ (by have := List.mem_range.1 hi; omega))
theorem lst_len (q : Nat → Nat) (t : Nat) : (lst q t).length = t := by simp [lst]
theorem put2_row (S : Nat → Nat → Bool) (u x : Nat) : put2 S u x u = upd (S u) x true := by
  funext v
  simp [put2, upd]
theorem put2_other (S : Nat → Nat → Bool) (u x u' : Nat) (h : u' ≠ u) : put2 S u x u' = S u' := by
  funext v
  simp [put2, h]
theorem no_bit {a k : Nat} (ha : a < 2 ^ 64) (hk : k < 64) (b : Bool) (h : a.testBit k = b) : (bits .and .u64 (a : Int) (IntKind.u64.wrap (2 ^ k)) == 0) = !b := by
  rw [← h, ← has_bit a k ha hk, bne, Bool.not_not]
set_option maxRecDepth 100000 in
set_option maxHeartbeats 4000000 in
theorem reach_any (w : World) (n d OB : Nat) (O : Nat → List Nat) (hn : n ≤ 10000) (hd : d ≤ 200) (hnd : n ≤ d * 64) (hL : LV w OB n O) (hO : ∀ v x, x ∈ O v → x < n) (hOl : ∀ v, (O v).length ≤ 100000) :
    Calls Try.prog 12 #[.int .i64 (n : Nat), .int .i64 (d : Nat), .slice (some ⟨OB, 0, none⟩) n n] w fun e w' => ∃ R W S, e = .returned (.slice (some ⟨R, 0, none⟩) (n * d) (n * d)) ∧ w.heap.size ≤ R ∧ Arr w' R 59 (n * d) (wv W) ∧ WI n d W S ∧ (∀ u v, u < n → v < n → (S u v = true ↔ Plain.Reach O u v)) ∧ Below w.heap.size w w' := by
  have hnd2 : n * d ≤ 2000000 := Nat.le_trans (Nat.mul_le_mul hn hd) (by omega)
  have HL : Hid (LV w OB n O) := hL
  have HO : Hid (∀ v x, x ∈ O v → x < n) := hO
  have HOL : Hid (∀ v, (O v).length ≤ 100000) := hOl
  have hmk := run_make_row' (P := Try.prog) 37 59 (.int .u64 0) 8 Try.underlying37 Try.info59 rfl .i64 .i64 (n * d) (by omega) (by omega) w
  rw [Int.natCast_mul] at hmk
  clear hL hO hOl
  go_enter Try.func12, Try.ntmps12
  go_upto_region 2 with fail
  obtain ⟨w1, hw1⟩ : ∃ w1 : World, w1 = w.alloc (.cells (madeCells #[.int .u64 0] (n * d)) 59) := ⟨_, rfl⟩
  rw [← hw1]
  obtain ⟨R, hR⟩ : ∃ R, R = w.heap.size := ⟨_, rfl⟩
  rw [← hR]
  have R1 : Hid (Arr w1 R 59 (n * d) (wv (fun _ => 0))) := by rw [hw1, hR]; exact made_at' w 59 (n * d) (.int .u64 0)
  have O1 : Hid (Below R w w1) := by rw [hw1, hR]; exact (Only.alloc w _ (fun _ => False)).below (Nat.le_refl _) (fun _ _ => id)
  have HR : Hid (R = w.heap.size) := hR
  clear hw1 hR hmk
  have hmk := run_make_stack n (by omega) w1
  go_upto_region 3 with fail
  obtain ⟨w2, hw2⟩ : ∃ w2 : World, w2 = w1.alloc (.cells (madeCells #[.int .i64 0] n) 3) := ⟨_, rfl⟩
  rw [← hw2]
  obtain ⟨T, hT⟩ : ∃ T, T = w1.heap.size := ⟨_, rfl⟩
  rw [← hT]
  have R2 : Hid (Arr w2 R 59 (n * d) (wv (fun _ => 0))) := by rw [hw2]; exact R1.out.alloc _
  have T2 : Hid (Arr w2 T 3 n (nv (fun _ => 0))) := by rw [hw2, hT]; exact made_at' w1 3 n (.int .i64 0)
  have O2 : Hid (Below R w w2) := by rw [hw2]; exact O1.out.trans ((Only.alloc w1 _ (fun _ => False)).below (by have := R1.out.lt; omega) (fun _ _ => id))
  have hRT : R < T := by rw [hT]; exact R1.out.lt
  clear hw2 hT hmk R1 O1
  go_wp2_with fail
  go_loopg [8, 9, 10, 11, 13, 14] n (fun z c8 c9 c10 c11 c13 c14 wr => ∃ (u t : Nat) (q W : Nat → Nat) (S : Nat → Nat → Bool) (v10 v11 v13 v14 : Value), z = n - u ∧ u ≤ n ∧ t ≤ n ∧ c8 = .slice (some ⟨T, 0, none⟩) t n ∧ c9 = .int .i64 u ∧ c10 = v10 ∧ c11 = v11 ∧ c13 = v13 ∧ c14 = v14 ∧ Hid (Arr wr T 3 n (nv q)) ∧ Hid (Arr wr R 59 (n * d) (wv W)) ∧ Hid (WI n d W S) ∧ Hid (∀ u' v, u' < u → v < n → (S u' v = true ↔ Plain.Reach O u' v)) ∧ Hid (∀ u' v, u ≤ u' → S u' v = false) ∧ Hid (Below R w wr))
  case atStart => exact ⟨0, 0, _, _, _, _, _, _, _, by omega, by omega, by omega, rfl, rfl, rfl, rfl, rfl, rfl, T2, R2, WI.zero n d, fun u' v h => by omega, fun _ _ _ => rfl, O2⟩
  case round =>
    obtain ⟨u, t, q, W, S, v10, v11, v13, v14, rfl, hu, ht, rfl, rfl, rfl, rfl, rfl, rfl, hT, hR, hW, hS1, hS2, hB⟩ := hrel
    by_cases hun : u < n
    · have hu64 : u / 64 < d := by omega
      have hi : u * d + u / 64 < n * d := cell_lt hun hu64
      have x1 := hR.out.cell hi
      have x2 := hR.out.free (u * d + u / 64)
      simp only [wv] at x1
      have hsb := set_bit (W (u * d + u / 64)) (u % 64) (hW.out.lt _) (by omega)
      go_upto_region 8 with fail
      clear hsb x1 x2
      generalize hw3 : World.setCell _ _ _ = w3
      have R3 : Hid (Arr w3 R 59 (n * d) (wv (upd W (u * d + u / 64) (W (u * d + u / 64) ||| 2 ^ (u % 64))))) := by
        rw [← hw3, ← upd_wv]
        exact hR.out.set _ _
      have T3 : Hid (Arr w3 T 3 n (nv q)) := by rw [← hw3]; exact hT.out.other (a := ⟨R, u * d + u / 64, none⟩) (by simp only; omega) _
      have W3 : Hid (WI n d (upd W (u * d + u / 64) (W (u * d + u / 64) ||| 2 ^ (u % 64))) (put2 S u u)) := hW.out.set hnd hun
      have B3 : Hid (Below R w w3) := by
        rw [← hw3]
        exact hB.out.trans ((Only.setCell wr ⟨R, u * d + u / 64, none⟩ _).below (Nat.le_of_lt hR.out.lt) (fun y hy e => by
          have e' : y = R := e
          omega))
      have I3 : Hid (RI n O u (put2 S u u u) [u]) := by
        rw [put2_row, show S u = fun _ => false from funext (fun v => hS2.out u v (Nat.le_refl _))]
        exact RI.start hun
      have S13 : Hid (∀ u' v, u' < u → v < n → (put2 S u u u' v = true ↔ Plain.Reach O u' v)) := fun u' v h1 h2 => by
        rw [put2_other _ _ _ _ (by omega)]; exact hS1.out u' v h1 h2
      have S23 : Hid (∀ u' v, u < u' → put2 S u u u' v = false) := fun u' v h1 => by
        rw [put2_other _ _ _ _ (by omega)]; exact hS2.out u' v (by omega)
      clear hw3 hR hT hW hS1 hS2 hB
      generalize hW2 : upd W (u * d + u / 64) (W (u * d + u / 64) ||| 2 ^ (u % 64)) = W2 at *
      generalize hSS : put2 S u u = S3 at *
      clear hW2 hSS
      have y1 := (T3.out.alloc (.cells #[.int .i64 (u : Nat)] 3)).cell (i := 0) (by omega)
      have y2 := (T3.out.alloc (.cells #[.int .i64 (u : Nat)] 3)).free 0
      go_wp2_with fail
      obtain ⟨w4, hw4⟩ : ∃ w4 : World, w4 = (w3.alloc (.cells #[.int .i64 (u : Nat)] 3)).setCell ⟨T, 0, none⟩ (.int .i64 (u : Nat)) := ⟨_, rfl⟩
      rw [← hw4]
      have T4 : Hid (Arr w4 T 3 n (nv (upd q 0 u))) := by
        rw [hw4, ← upd_nv]
        exact (T3.out.alloc _).set 0 _
      have R4 : Hid (Arr w4 R 59 (n * d) (wv W2)) := by
        rw [hw4]
        exact (R3.out.alloc _).other (a := ⟨T, 0, none⟩) (by simp only; omega) _
      have B4 : Hid (Below R w w4) := by
        rw [hw4]
        exact B3.out.trans (((Only.alloc w3 _ (fun y => y = T)).trans (Only.setCell _ ⟨T, 0, none⟩ _)).below (Nat.le_of_lt R3.out.lt) (fun y hy e => by omega))
      have I4 : Hid (RI n O u (S3 u) (lst (upd q 0 u) (0 + 1))) := by
        rw [lst_upd]
        exact I3.out
      clear hw4 T3 R3 B3 I3 y1 y2
      go_loopg [8, 11, 13, 14] (0 + 1 + 2 * unv (b2n (S3 u)) n) (fun z c8 c11 c13 c14 wr => ∃ (t : Nat) (q W : Nat → Nat) (S : Nat → Nat → Bool) (v11 v13 v14 : Value), z = t + 2 * unv (b2n (S u)) n ∧ t ≤ n ∧ c8 = .slice (some ⟨T, 0, none⟩) t n ∧ c11 = v11 ∧ c13 = v13 ∧ c14 = v14 ∧ Hid (Arr wr T 3 n (nv q)) ∧ Hid (Arr wr R 59 (n * d) (wv W)) ∧ Hid (WI n d W S) ∧ Hid (RI n O u (S u) (lst q t)) ∧ Hid (∀ u' v, u' < u → v < n → (S u' v = true ↔ Plain.Reach O u' v)) ∧ Hid (∀ u' v, u < u' → S u' v = false) ∧ Hid (Below R w wr))
      case atStart => exact ⟨0 + 1, upd q 0 u, W2, S3, _, _, _, rfl, by omega, rfl, rfl, rfl, rfl, T4, R4, W3, I4, S13, S23, B4⟩
      case round =>
        clear T4 R4 W3 I4 S13 S23 B4
        obtain ⟨t, q, W, S, v11, v13, v14, rfl, ht, rfl, rfl, rfl, rfl, hT, hR, hW, hI, hS1, hS2, hB⟩ := hrel
        by_cases ht0 : 0 < t
        · obtain ⟨s, rfl⟩ : ∃ s, t = s + 1 := ⟨t - 1, by omega⟩
          have hI' := hI.out
          rw [lst_succ] at hI'
          have J0 : Hid (RJ n O u (S u) (lst q s) (q s) 0) := hI'.pop
          obtain ⟨v, hv⟩ : ∃ v, v = q s := ⟨_, rfl⟩
          have hvn : v < n := by rw [hv]; exact (J0.out.from_ _ J0.out.at_).1
          have x1 := hT.out.cell (i := s) (by omega)
          simp only [nv] at x1
          rw [← hv] at x1
          have HJ0 : Hid (RJ n O u (S u) (lst q s) v 0) := by rw [hv]; exact J0.out
          have LL : Hid (LV wr OB n O) := HL.out.only (Only.belowAll (by rw [← HR.out]; exact hB.out) (fun _ => False)) (fun _ _ => id)
          obtain ⟨ao, c, x2, y2⟩ := LL.out v hvn
          obtain ⟨l, hl⟩ : ∃ l, l = (O v).length := ⟨_, rfl⟩
          rw [← hl] at x2 y2
          have hl5 : l ≤ 100000 := by rw [hl]; exact HOL.out v
          have HLN : Hid (l = (O v).length) := hl
          have ZZ : Hid (∀ wr, Below R w wr → ∀ j, j < l → ∃ g, ao = some ⟨g, 0, none⟩ ∧ wr.cell? ⟨g, j, none⟩ = some (.int .i64 (((O v).getD j 0 : Nat) : Int))) := fun wr' hb j hj => by
            obtain ⟨ao', c', a1, a2⟩ := HL.out v hvn
            have e1 : wr.cell? ⟨OB, v, none⟩ = some (.slice ao' (O v).length c') := by rw [hB.out.cell (by rw [HR.out]; exact World.block_lt_of_cell? w _ a1)]; exact a1
            rw [x2] at e1
            simp only [Option.some.injEq, Value.slice.injEq] at e1
            obtain ⟨e1, _, _⟩ := e1
            subst e1
            obtain ⟨g, a3, a4⟩ := a2 j (by rw [← HLN.out]; exact hj)
            exact ⟨g, a3, by rw [hb.cell (by rw [HR.out]; exact World.block_lt_of_cell? w _ a4)]; exact a4⟩
          clear y2 hl hv hI hI' J0 LL
          go_wp2_with fail
          obtain ⟨Z, hZ⟩ : ∃ Z, Z = s + 2 * unv (b2n (S u)) n := ⟨_, rfl⟩
          have HZ : Hid (Z = s + 2 * unv (b2n (S u)) n) := hZ
          clear hZ
          go_loopg [8, 13, 14, 66] l (fun z c8 c13 c14 c66 wr => ∃ (k t : Nat) (q W : Nat → Nat) (S : Nat → Nat → Bool) (v13 v14 : Value), z = l - k ∧ k ≤ l ∧ t + 1 ≤ n ∧ c8 = .slice (some ⟨T, 0, none⟩) t n ∧ c13 = v13 ∧ c14 = v14 ∧ c66 = .int .i64 k ∧ Hid (t + 2 * unv (b2n (S u)) n ≤ Z) ∧ Hid (Arr wr T 3 n (nv q)) ∧ Hid (Arr wr R 59 (n * d) (wv W)) ∧ Hid (WI n d W S) ∧ Hid (RJ n O u (S u) (lst q t) v k) ∧ Hid (∀ u' v, u' < u → v < n → (S u' v = true ↔ Plain.Reach O u' v)) ∧ Hid (∀ u' v, u < u' → S u' v = false) ∧ Hid (Below R w wr))
          case atStart => exact ⟨0, s, q, W, S, _, _, by omega, by omega, by omega, rfl, rfl, rfl, rfl, by rw [HZ.out]; exact Nat.le_refl _, hT, hR, hW, HJ0, hS1, hS2, hB⟩
          case round =>
            clear hT hR hW HJ0 hS1 hS2 hB x1 x2
            obtain ⟨k, t, q, W, S, v13, v14, rfl, hk, ht, rfl, rfl, rfl, rfl, hM, hT, hR, hW, hJ, hS1, hS2, hB⟩ := hrel
            by_cases hkl : k < l
            · obtain ⟨g, rfl, x1⟩ := ZZ.out wr hB.out k hkl
              have hkO : k < (O v).length := by rw [← HLN.out]; exact hkl
              have hxn : (O v).getD k 0 < n := HO.out v _ (getD_mem hkO)
              obtain ⟨x, hx⟩ : ∃ x, x = (O v).getD k 0 := ⟨_, rfl⟩
              rw [← hx] at x1 hxn
              have HX : Hid (x = (O v).getD k 0) := hx
              have HKO : Hid (k < (O v).length) := hkO
              clear hx hkO
              have hx64 : x / 64 < d := by omega
              have hix : u * d + x / 64 < n * d := cell_lt hun hx64
              have x2 := hR.out.cell hix
              simp only [wv] at x2
              have x3 := hR.out.free (u * d + x / 64)
              have hbit := no_bit (hW.out.lt (u * d + x / 64)) (show x % 64 < 64 by omega) (S u x) (hW.out.bit u x hun hxn)
              cases hsx : S u x with
              | true =>
                have HSX : Hid (S u x = true) := hsx
                rw [hsx] at hbit
                simp only [Bool.not_true] at hbit
                clear hsx
                go_wp2_with fail
                go_roundg (l - (k + 1))
                case measure => omega
                case rel =>
                  refine ⟨k + 1, t, q, W, S, _, _, rfl, by omega, ht, rfl, rfl, rfl, by go_num, hM, hT, hR, hW, ?_, hS1, hS2, hB⟩
                  exact hJ.out.next HKO.out (by rw [← HX.out]; exact HSX.out)
              | false =>
                have HSX : Hid (S u x = false) := hsx
                rw [hsx] at hbit
                simp only [Bool.not_false] at hbit
                have hsb := set_bit (W (u * d + x / 64)) (x % 64) (hW.out.lt _) (by omega)
                have T5 : Hid (Arr (wr.setCell ⟨R, u * d + x / 64, none⟩ (.int .u64 ((W (u * d + x / 64) ||| 2 ^ (x % 64) : Nat) : Int))) T 3 n (nv q)) := hT.out.other (a := ⟨R, u * d + x / 64, none⟩) (by simp only; omega) _
                have y1 := (T5.out.alloc (.cells #[.int .i64 (x : Nat)] 3)).cell (i := t) (by omega)
                have y2 := (T5.out.alloc (.cells #[.int .i64 (x : Nat)] 3)).free t
                clear hsx
                go_wp2_with fail
                obtain ⟨w5, hw5⟩ : ∃ w5 : World, w5 = ((wr.setCell ⟨R, u * d + x / 64, none⟩ (.int .u64 ((W (u * d + x / 64) ||| 2 ^ (x % 64) : Nat) : Int))).alloc (.cells #[.int .i64 (x : Nat)] 3)).setCell ⟨T, t, none⟩ (.int .i64 (x : Nat)) := ⟨_, rfl⟩
                rw [← hw5]
                have T6 : Hid (Arr w5 T 3 n (nv (upd q t x))) := by
                  rw [hw5, ← upd_nv]
                  exact (T5.out.alloc _).set t _
                have R6 : Hid (Arr w5 R 59 (n * d) (wv (upd W (u * d + x / 64) (W (u * d + x / 64) ||| 2 ^ (x % 64))))) := by
                  rw [hw5, ← upd_wv]
                  exact ((hR.out.set _ _).alloc _).other (a := ⟨T, t, none⟩) (by simp only; omega) _
                have B6 : Hid (Below R w w5) := by
                  rw [hw5]
                  refine hB.out.trans (Only.below (S := fun y => y = R ∨ y = T) (((Only.put1' _ wr R _ _ (Or.inl rfl)).trans (Only.alloc _ _ _)).trans (Only.put1' _ _ T t _ (Or.inr rfl))) (Nat.le_of_lt hR.out.lt) (fun y hy e => by omega))
                have W6 : Hid (WI n d (upd W (u * d + x / 64) (W (u * d + x / 64) ||| 2 ^ (x % 64))) (put2 S u x)) := hW.out.set hnd hxn
                have J6 : Hid (RJ n O u (put2 S u x u) (lst (upd q t x) (t + 1)) v (k + 1)) := by
                  have := hJ.out.push HKO.out HO.out (by rw [← HX.out]; exact HSX.out)
                  rw [← HX.out] at this
                  rw [put2_row, lst_upd]
                  exact this
                have hrm := J6.out.room
                rw [lst_len] at hrm
                have hun1 := unv_mark (n := n) HSX.out hxn
                have hM6 : Hid (t + 1 + 2 * unv (b2n (put2 S u x u)) n ≤ Z) := by
                  have := hM.out
                  rw [put2_row]
                  show _ ≤ _
                  omega
                clear hw5
                go_roundg (l - (k + 1))
                case measure => omega
                case rel =>
                  exact ⟨k + 1, t + 1, upd q t x, _, put2 S u x, _, _, rfl, by omega, by omega, rfl, rfl, rfl, by go_num, hM6, T6, R6, W6, J6, fun u' v' h1 h2 => (by rw [put2_other _ _ _ _ (by omega)]; exact hS1.out u' v' h1 h2), fun u' v' h1 => (by rw [put2_other _ _ _ _ (by omega)]; exact hS2.out u' v' h1), B6⟩
            · obtain rfl : l = k := by omega
              have I7 : Hid (RI n O u (S u) (lst q t)) := by
                have := hJ.out
                rw [HLN.out] at this
                exact this.close
              go_wp2_with fail
              go_roundg (t + 2 * unv (b2n (S u)) n)
              case measure =>
                have h1 := hM.out
                have h2 := HZ.out
                omega
              case rel => exact ⟨t, q, W, S, _, _, _, rfl, by omega, rfl, rfl, rfl, rfl, hT, hR, hW, I7, hS1, hS2, hB⟩
        · obtain rfl : t = 0 := by omega
          have he : Hid (∀ x, S u x = true ↔ Plain.Reach O u x) := fun x => RI.end_ hI.out x
          go_wp2_with fail
          go_roundg (n - (u + 1))
          case measure => omega
          case rel =>
            refine ⟨u + 1, 0, q, W, S, _, _, _, _, rfl, by omega, by omega, rfl, by go_num, rfl, rfl, rfl, rfl, hT, hR, hW, fun u' v h1 h2 => ?_, fun u' v h => hS2.out u' v (by omega), hB⟩
            by_cases e : u' = u
            · rw [e]; exact he.out v
            · exact hS1.out u' v (by omega) h2
    · obtain rfl : n = u := by omega
      go_wp2_with fail
      go_ret
      exact ⟨R, W, S, rfl, by rw [HR.out]; exact Nat.le_refl _, hR.out, hW.out, hS1.out, by rw [← HR.out]; exact hB.out⟩
end Go.Proofs.Qxb6616383a
