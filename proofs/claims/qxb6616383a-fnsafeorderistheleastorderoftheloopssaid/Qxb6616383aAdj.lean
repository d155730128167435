/-
  The walk of adjacent: the lists by name.
-/
import Derived.Test.Qxb6616383aShelf
import Derived.Test.Qxb6616383aAppend
import Derived.Test.Qxb6616383aCount
import Derived.Test.Qxb6616383aPut
import Derived.Test.Qxb6616383aTables
namespace Go.Proofs.Qxb6616383a
open Go.RowKit
open Plain
def pv (P : Nat → Nat → Nat) : Nat → Value := fun i => .int .i64 (P (i / 2) (i % 2) : Nat)
theorem pv_even (P : Nat → Nat → Nat) (k : Nat) : pv P (k * 2) = .int .i64 (P k 0 : Nat) := by simp [pv]
theorem pv_odd (P : Nat → Nat → Nat) (k : Nat) : pv P (k * 2 + 1) = .int .i64 (P k 1 : Nat) := by
  have h1 : (k * 2 + 1) / 2 = k := by omega
  have h2 : (k * 2 + 1) % 2 = 1 := by omega
  simp [pv, h1, h2]
/-- The list of u stands. -/
def LOK (A n m : Nat) (x y : Nat → Nat) (F : Nat → Int) (val : Nat → Value) (u : Nat) : Prop :=
  ∃ ao c, val u = .slice ao (nbr n x y m u).length c ∧ ((nbr n x y m u).length = 0 ∨ ao = some ⟨A, pre x m u, none⟩) ∧ (∀ j, j < (nbr n x y m u).length → F (pre x m u + j) = ((nbr n x y m u).getD j 0 : Nat)) ∧ pre x m u + (nbr n x y m u).length ≤ m
theorem own_of_ints {w : World} {B n : Nat} {v : Value} {f : Nat → Nat} (h : w.ownsRow B 3 1 v n ((((List.range n).map (fun i => ((f i : Nat) : Int))).take n).map (Value.int .i64))) (hne : v ≠ .slice none 0 0) : ∃ G c, v = .slice (some ⟨G, 0, none⟩) n c ∧ B ≤ G ∧ Own w B 3 v n (nv f) := by
  have h' : Own w B 3 v n (nv f) := by
    show World.ownsRow _ _ _ _ _ _ _
    have e : (((List.range n).map (fun i => ((f i : Nat) : Int))).take n).map (Value.int .i64) = (List.range n).map (nv f) := by
      rw [List.take_of_length_le (by simp), List.map_map]; rfl
    rw [← e]; exact h
  rcases h'.cases with ⟨h1, _⟩ | ⟨G, c, h1, h2, _⟩
  · exact absurd h1 hne
  · exact ⟨G, c, h1, h2, h'⟩

set_option maxRecDepth 100000 in
set_option maxHeartbeats 4000000 in
theorem adj0_any (w : World) (E m n : Nat) (P : Nat → Nat → Nat) (hE : Arr w E 82 (2 * m) (pv P)) (hm : m ≤ 100000) (hn : n ≤ 100000) (hP : ∀ k j, k < m → j ≤ 1 → P k j < n) :
    Calls Try.prog 32 #[.int .i64 (n : Nat), .slice (some ⟨E, 0, none⟩) m m, .int .i64 0] w fun e w' => ∃ L A, e = .returned (.slice (some ⟨L, 0, none⟩) n n) ∧ w.heap.size ≤ A ∧ A < L ∧ Lists w' L A n (nbr n (fun k => P k 0) (fun k => P k 1) m) ∧ Below w.heap.size w w' := by
  have HE : Hid (Arr w E 82 (2 * m) (pv P)) := hE
  have HP : Hid (∀ k j, k < m → j ≤ 1 → P k j < n) := hP
  have hElt := hE.lt
  clear hE hP
  obtain ⟨x, hx⟩ : ∃ x : Nat → Nat, x = fun k => P k 0 := ⟨_, rfl⟩
  obtain ⟨y, hy⟩ : ∃ y : Nat → Nat, y = fun k => P k 1 := ⟨_, rfl⟩
  have HX : Hid (∀ k, P k 0 = x k) := fun k => by rw [hx]
  have HY : Hid (∀ k, P k 1 = y k) := fun k => by rw [hy]
  clear hx hy
  have HXN : Hid (∀ k, k < m → x k < n) := fun k hk => by rw [← HX.out k]; exact HP.out k _ hk (by omega)
  obtain ⟨S, hS⟩ : ∃ S, S = w.heap.size := ⟨_, rfl⟩
  have HSE : Hid (S = w.heap.size) := hS
  go_enter Try.func32, Try.ntmps32
  go_wp2_with (first
    | (
      refine make_arr w rfl _ _ 26 rfl 3 (.int .i64 0) 8 Try.underlying26 Try.info3 rfl .i64 .i64 _ _ (n + 1) rfl rfl (by omega) (by omega) (by omega) (by unfold maxLen; omega) ?_
      intro w1 hA1 hN1))
  have HA1 : Hid (Arr w1 S 3 (n + 1) (nv (st1 x 0))) := by
    rw [st1_zero, hS]; exact hA1
  have HB1 : Hid (Below S w w1) := by rw [hS]; exact hN1.out.below
  have hSs : S ≤ w.heap.size := by omega
  rw [← hS] at hElt ⊢
  clear hS hA1 hN1
  go_loopg [23] m (fun z i wr => ∃ k : Nat, z = m - k ∧ k ≤ m ∧ i = .int .i64 k ∧ Hid (Arr wr S 3 (n + 1) (nv (st1 x k))) ∧ Hid (Below S w wr))
  case atStart => exact ⟨0, by omega, by omega, rfl, HA1, HB1⟩
  case round =>
    obtain ⟨k, rfl, hk, rfl, hA, hB⟩ := hrel
    by_cases hlt : k < m
    · have hEr : Arr wr E 82 (2 * m) (pv P) := HE.out.below hB.out hElt
      have c0 := hEr.cell (i := k * 2) (by omega)
      have c1 := hEr.cell (i := k * 2 + 1) (by omega)
      rw [pv_even, HX.out] at c0
      rw [pv_odd, HY.out] at c1
      have hxn := HXN.out k hlt
      have hcl := cnt_le x (x k) k
      have HA' : Hid (Arr (wr.alloc (.cells #[.int .i64 (x k : Nat), .int .i64 (y k : Nat)] 82)) S 3 (n + 1) (nv (st1 x k))) := hA.out.alloc _
      have cs := HA'.out.cell (i := x k + 1) (by omega)
      rw [show nv (st1 x k) (x k + 1) = .int .i64 ((cnt x (x k) k : Nat) : Int) by simp [nv, st1]] at cs
      have fs := HA'.out.free (x k + 1)
      have hSr : S ≤ wr.heap.size := Nat.le_trans hSs hB.out.size
      clear hEr
      go_wp2_with fail
      go_roundg (m - (k + 1))
      case measure => omega
      case rel =>
        refine ⟨k + 1, rfl, by omega, by go_num, ?_, ?_⟩
        · have := HA'.out.set (x k + 1) (.int .i64 ((cnt x (x k) k + 1 : Nat) : Int))
          rw [upd_nv, show cnt x (x k) k + 1 = st1 x k (x k + 1) + 1 by simp [st1], st1_step] at this
          exact this
        · exact (hB.out.alloc hSr _).setCell (Nat.le_refl _) _
    · obtain rfl : m = k := by omega
      have HA2 : Hid (Arr wr S 3 (n + 1) (nv (st2 x m 0))) := by rw [st2_zero]; exact hA
      obtain ⟨w2, hw2⟩ : ∃ w2 : World, w2 = wr := ⟨_, rfl⟩
      rw [← hw2] at HA2 hB ⊢
      clear hw2 hA
      go_wp2_with fail
      go_loopg [38] n (fun z i wr => ∃ v : Nat, z = n - v ∧ v ≤ n ∧ i = .int .i64 v ∧ Hid (Arr wr S 3 (n + 1) (nv (st2 x m v))) ∧ Hid (Below S w wr))
      case atStart => exact ⟨0, by omega, by omega, rfl, HA2, hB⟩
      case round =>
        obtain ⟨v, rfl, hv, rfl, hA, hB⟩ := hrel
        by_cases hvn : v < n
        · have c0 := hA.out.cell (i := v) (by omega)
          have c1 := hA.out.cell (i := v + 1) (by omega)
          have f1 := hA.out.free (v + 1)
          have hp1 : st2 x m v v ≤ m := by simp only [st2, Nat.le_refl, if_true]; exact pre_le HXN.out (by omega)
          have hp2 : st2 x m v (v + 1) ≤ m := by
            simp only [st2]
            rw [if_neg (by omega)]
            exact cnt_le x _ m
          rw [show nv (st2 x m v) v = .int .i64 ((st2 x m v v : Nat) : Int) from rfl] at c0
          rw [show nv (st2 x m v) (v + 1) = .int .i64 ((st2 x m v (v + 1) : Nat) : Int) from rfl] at c1
          go_wp2_with fail
          go_region
          all_goals (go_wp2_with fail)
          all_goals (go_roundg (n - (v + 1)))
          case measure => omega
          case rel =>
            refine ⟨v + 1, rfl, by omega, by go_num, ?_, ?_⟩
            · have := (hA.out.drewN 1).set (v + 1) (.int .i64 ((st2 x m v (v + 1) + st2 x m v v : Nat) : Int))
              rw [upd_nv, st2_step] at this
              exact this
            · exact hB.out.drew.setCell (Nat.le_refl _) _
        · obtain rfl : n = v := by omega
          have HA3 : Hid (Arr wr S 3 (n + 1) (nv (pre x m))) := hA.out.congr (fun i hi => by simp only [nv, st2]; rw [if_pos (by omega)])
          obtain ⟨w3, hw3⟩ : ∃ w3 : World, w3 = wr := ⟨_, rfl⟩
          rw [← hw3] at HA3 hB ⊢
          clear hw3 hA HA2 HA1 HB1
          have hzl : ((List.range n).map (fun i => ((pre x m i : Nat) : Int))).length = n := by simp
          go_wp2_with (first
            | (
              refine make_arr w3 rfl _ _ 26 rfl 3 (.int .i64 0) 8 Try.underlying26 Try.info3 rfl .i64 .i64 _ _ m rfl rfl rfl rfl (by omega) (by unfold maxLen; omega) ?_
              intro w4 hA4 hN4
              have HA4 : Hid (Arr w4 S 3 (n + 1) (nv (pre x m))) := HA3.out.new hN4.out)
            | (
              go_at_call 41
              refine (Try.slices_Clone_int S 0 n (n + 1) ((List.range n).map (fun i => ((pre x m i : Nat) : Int))) w4 (by simp) (by omega) ?_).mono ?_
              · intro j hj
                have hj' : j < n := by simpa using hj
                have := HA4.out.cell (i := j) (by omega)
                rw [Nat.zero_add, this]
                simp [nv, hj']
              rintro e w5 ⟨v', rfl, ho5, hne5, hb5⟩
              obtain ⟨G, c5, rfl, hG5, hO5⟩ := own_of_ints ho5 hne5
              have HO5 : Hid (Own w5 w4.heap.size 3 (.slice (some ⟨G, 0, none⟩) n c5) n (nv (pre x m))) := hO5
              have HB5 : Hid (Below w4.heap.size w4 w5) := hb5
              clear ho5 hb5 hne5 hO5))
          obtain ⟨A, hAe⟩ : ∃ A, A = w3.heap.size := ⟨_, rfl⟩
          have hS3 : S < A := by rw [hAe]; exact HA3.out.lt
          have hAG : A < G := by have := hN4.out.lt; omega
          have HA5 : Hid (Arr w5 A 3 m (nv (fun _ => 0))) := by rw [hAe]; exact hA4.out.below HB5.out hN4.out.lt
          have HS5 : Hid (Arr w5 S 3 (n + 1) (nv (pre x m))) := HA4.out.below HB5.out HA4.out.lt
          have HG5 : Hid (Row w5 G 3 n (nv (fi x m 0))) := by rw [fi_zero]; exact HO5.out.row
          have HB6 : Hid (Below S w w5) := (hB.out.trans (hN4.out.below.mono (by omega))).trans (HB5.out.mono (by have := hN4.out.lt; omega))
          rw [← hAe]
          clear hAe hA4 hN4 HA4 HO5 HB5 hB HA3 hzl
          go_loopg [62] m (fun z i wr => ∃ (k : Nat) (Af : Nat → Nat), z = m - k ∧ k ≤ m ∧ i = .int .i64 k ∧ Hid (Arr wr S 3 (n + 1) (nv (pre x m))) ∧ Hid (Arr wr A 3 m (nv Af)) ∧ Hid (Row wr G 3 n (nv (fi x m k))) ∧ Hid (Below S w wr) ∧ Hid (Fill x y m k Af))
          case atStart => exact ⟨0, fun _ => 0, by omega, by omega, rfl, HS5, HA5, HG5, HB6, Fill.start _ _ _ _⟩
          case round =>
            obtain ⟨k, Af, rfl, hk, rfl, hS, hA, hG, hB, hF⟩ := hrel
            by_cases hlt : k < m
            · have hEr : Arr wr E 82 (2 * m) (pv P) := HE.out.below hB.out hElt
              have c0 := hEr.cell (i := k * 2) (by omega)
              have c1 := hEr.cell (i := k * 2 + 1) (by omega)
              rw [pv_even, HX.out] at c0
              rw [pv_odd, HY.out] at c1
              have hxn := HXN.out k hlt
              have hroom := cnt_room (x := x) hlt
              have hpl : pre x m (x k) + cnt x (x k) m ≤ m := pre_le (v := x k + 1) HXN.out (by omega)
              obtain ⟨q, hq⟩ : ∃ q, q = fi x m k (x k) := ⟨_, rfl⟩
              have hqm : q < m := by simp only [fi] at hq; omega
              have HQ : Hid (q = fi x m k (x k)) := hq
              have cg := (hG.out.alloc (.cells #[.int .i64 (x k : Nat), .int .i64 (y k : Nat)] 82)).cell hxn
              rw [show nv (fi x m k) (x k) = .int .i64 ((q : Nat) : Int) by rw [hq]; rfl] at cg
              have ca := (hA.out.alloc (.cells #[.int .i64 (x k : Nat), .int .i64 (y k : Nat)] 82)).cell hqm
              have fa := (hA.out.alloc (.cells #[.int .i64 (x k : Nat), .int .i64 (y k : Nat)] 82)).free q
              have hSr : S ≤ wr.heap.size := Nat.le_trans hSs hB.out.size
              have hAr := hA.out.lt
              have hGr := hG.out.lt
              have HG' : Hid (Row ((wr.setCell ⟨A, q, none⟩ (.int .i64 (y k : Nat))).alloc (.cells #[.int .i64 (x k : Nat), .int .i64 (y k : Nat)] 82)) G 3 n (nv (fi x m k))) := (hG.out.other (by show G ≠ A; omega) _).alloc _
              have cg' := HG'.out.cell hxn
              rw [show nv (fi x m k) (x k) = .int .i64 ((q : Nat) : Int) by rw [hq]; rfl] at cg'
              have fg' := HG'.out.free (x k)
              clear hEr hq
              go_wp2_with fail
              go_region
              all_goals (go_wp2_with fail)
              all_goals (go_roundg (m - (k + 1)))
              case measure => omega
              case rel =>
                refine ⟨k + 1, upd Af q (y k), rfl, by omega, by go_num, ?_, ?_, ?_, ?_, ?_⟩
                · exact ((hS.out.other (by show S ≠ A; omega) _).other (by show S ≠ G; omega) _).alloc _
                · have := hA.out.set q (.int .i64 (y k : Nat))
                  rw [upd_nv] at this
                  exact (this.other (by show A ≠ G; omega) _).alloc _
                · have := (hG.out.other (a := ⟨A, q, none⟩) (by show G ≠ A; omega) (.int .i64 (y k : Nat))).set (x k) (.int .i64 ((q + 1 : Nat) : Int)) hxn
                  have e : upd (fi x m k) (x k) (q + 1) = fi x m (k + 1) := by rw [HQ.out, fi_step]
                  rw [upd_nv, e] at this
                  exact this.alloc _
                · exact ((hB.out.setCell (p := ⟨A, q, none⟩) (by show S ≤ A; omega) (.int .i64 (y k : Nat))).setCell (p := ⟨G, x k, none⟩) (by show S ≤ G; omega) (.int .i64 ((q : Int) + 1))).alloc (by rw [size_setCell, size_setCell]; exact hSr) (.cells #[.int .i64 (x k : Nat), .int .i64 (y k : Nat)] 82) |>.drew
                · rw [HQ.out]; exact hF.out.step hlt
            · obtain rfl : m = k := by omega
              obtain ⟨w6, hw6⟩ : ∃ w6 : World, w6 = wr := ⟨_, rfl⟩
              rw [← hw6] at hS hA hB ⊢
              have HYN : Hid (∀ k, k < m → y k < n) := fun k hk => by rw [← HY.out k]; exact HP.out k _ hk (by omega)
              have HF : Hid (Fill x y m m Af) := hF
              have HLN : Hid (∀ u, (nbr n x y m u).length ≤ cnt x u m) := fun u => hF.out.len_le HYN.out u
              clear hw6 hG hF HS5 HA5 HG5 HB6
              go_wp2_with (
                refine make_arr w6 rfl _ _ 36 rfl 26 (.slice none 0 0) 24 Try.underlying36 Try.info26 rfl .i64 .i64 _ _ n rfl rfl rfl rfl (by omega) (by unfold maxLen; omega) ?_
                intro w7 hL7 hN7
                have HS7 : Hid (Arr w7 S 3 (n + 1) (nv (pre x m))) := hS.out.new hN7.out
                have HA7 : Hid (Arr w7 A 3 m (nv Af)) := hA.out.new hN7.out
                have HB7 : Hid (Below S w w7) := hB.out.trans (hN7.out.below.mono (Nat.le_trans hSs hB.out.size)))
              obtain ⟨L, hLe⟩ : ∃ L, L = w6.heap.size := ⟨_, rfl⟩
              have hAL : A < L := by rw [hLe]; exact hA.out.lt
              rw [← hLe] at hL7 ⊢
              clear hLe hS hA hB hN7
              go_loopg [90] n (fun z i wr => ∃ (v : Nat) (F : Nat → Int) (val : Nat → Value), z = n - v ∧ v ≤ n ∧ i = .int .i64 v ∧ Hid (Arr wr S 3 (n + 1) (nv (pre x m))) ∧ Hid (Arr wr A 3 m (iv F)) ∧ Hid (Arr wr L 26 n val) ∧ Hid (Below S w wr) ∧ Hid (∀ p, pre x m v ≤ p → p < m → F p = (Af p : Nat)) ∧ Hid (∀ u, u < v → LOK A n m x y F val u))
              case atStart => exact ⟨0, fun p => (Af p : Nat), _, by omega, by omega, rfl, HS7, HA7, hL7, HB7, fun p _ _ => rfl, fun u hu => by omega⟩
              case round =>
                obtain ⟨v, F, val, rfl, hv, rfl, hS, hA, hL, hB, hRest, hDone⟩ := hrel
                by_cases hvn : v < n
                · have c0 := hS.out.cell (i := v) (by omega)
                  have c1 := hS.out.cell (i := v + 1) (by omega)
                  obtain ⟨a, ha⟩ : ∃ a, a = pre x m v := ⟨_, rfl⟩
                  obtain ⟨c, hc⟩ : ∃ c, c = cnt x v m := ⟨_, rfl⟩
                  rw [show nv (pre x m) v = .int .i64 ((a : Nat) : Int) by rw [ha]; rfl] at c0
                  rw [show nv (pre x m) (v + 1) = .int .i64 ((a + c : Nat) : Int) by rw [ha, hc]; rfl] at c1
                  have hacm : a + c ≤ m := by rw [ha, hc]; exact pre_le (v := v + 1) HXN.out (by omega)
                  have HAE : Hid (a = pre x m v) := ha
                  have HCE : Hid (c = cnt x v m) := hc
                  clear ha hc
                  have HSEL := HF.out.sel HYN.out v
                  rw [← HAE.out, ← HCE.out] at HSEL
                  have HSEL : Hid (_ = _) := HSEL
                  by_cases h0 : c = 0
                  · have HC0 : Hid (c = 0) := h0
                    by_cases ham : a = m
                    · have fl := hL.out.free v
                      have cl := hL.out.cell hvn
                      go_wp2_with (first
                        | go_quiet (fail)
                        | (
                          go_at_call 42
                          refine (Try.slices_Sort_int_none _ _ _).mono ?_
                          rintro e w8 ⟨rfl, hw8⟩
                          obtain rfl := hw8.symm)
                        | (
                          go_at_call 43
                          refine (Try.slices_Compact_int_empty _ _ _).mono ?_
                          rintro e w9 ⟨rfl, hw9⟩
                          obtain rfl := hw9.symm))
                      go_roundg (n - (v + 1))
                      case measure => omega
                      case rel =>
                        have hnb : (nbr n x y m v).length = 0 := by
                          have := HSEL.out
                          rw [HC0.out] at this
                          have := congrArg List.length this
                          simpa [Lib.compact, Lib.compactUpTo] using this.symm
                        refine ⟨v + 1, F, upd val v (.slice (some ⟨A, 0, none⟩) 0 0), rfl, by omega, by go_num, ?_, ?_, ?_, ?_, ?_, ?_⟩
                        · exact (hS.out.drewN _).other (by show S ≠ L; omega) _
                        · exact (hA.out.drewN _).other (by show A ≠ L; omega) _
                        · exact (hL.out.drewN _).set v _
                        · exact (below_drewN hB.out _).setCell (by show S ≤ L; omega) _
                        · exact fun p hp hpm => hRest.out p (by rw [← HAE.out]; simp only [pre, ← HAE.out] at hp; omega) hpm
                        · intro u hu
                          by_cases huv : u = v
                          · subst huv
                            refine ⟨some ⟨A, 0, none⟩, 0, by simp [upd, hnb], Or.inl hnb, fun j hj => by omega, by rw [hnb, ← HAE.out]; omega⟩
                          · obtain ⟨ao, cc, e1, e2, e3, e4⟩ := hDone.out u (by omega)
                            exact ⟨ao, cc, by simp [upd, huv, e1], e2, e3, e4⟩
                    · have fl := hL.out.free v
                      have cl := hL.out.cell hvn
                      go_wp2_with (first
                        | go_quiet (fail)
                        | (
                          go_at_call 42
                          refine (Try.slices_Sort_int_none _ _ _).mono ?_
                          rintro e w8 ⟨rfl, hw8⟩
                          obtain rfl := hw8.symm)
                        | (
                          go_at_call 43
                          refine (Try.slices_Compact_int_empty _ _ _).mono ?_
                          rintro e w9 ⟨rfl, hw9⟩
                          obtain rfl := hw9.symm))
                      go_roundg (n - (v + 1))
                      case measure => omega
                      case rel =>
                        have hnb : (nbr n x y m v).length = 0 := by
                          have := HSEL.out
                          rw [HC0.out] at this
                          have := congrArg List.length this
                          simpa [Lib.compact, Lib.compactUpTo] using this.symm
                        refine ⟨v + 1, F, upd val v (.slice (some ⟨A, a, none⟩) 0 (m - a)), rfl, by omega, by go_num, ?_, ?_, ?_, ?_, ?_, ?_⟩
                        · exact (hS.out.drewN _).other (by show S ≠ L; omega) _
                        · exact (hA.out.drewN _).other (by show A ≠ L; omega) _
                        · exact (hL.out.drewN _).set v _
                        · exact (below_drewN hB.out _).setCell (by show S ≤ L; omega) _
                        · exact fun p hp hpm => hRest.out p (by rw [← HAE.out]; simp only [pre, ← HAE.out] at hp; omega) hpm
                        · intro u hu
                          by_cases huv : u = v
                          · subst huv
                            refine ⟨some ⟨A, a, none⟩, (m - a), by simp [upd, hnb], Or.inl hnb, fun j hj => by omega, by rw [hnb, ← HAE.out]; omega⟩
                          · obtain ⟨ao, cc, e1, e2, e3, e4⟩ := hDone.out u (by omega)
                            exact ⟨ao, cc, by simp [upd, huv, e1], e2, e3, e4⟩
                  · have ham : ¬ a = m := by omega
                    have fl := hL.out.free v
                    have cl := hL.out.cell hvn
                    obtain ⟨zs, hzs⟩ : ∃ zs : List Int, zs = (List.range c).map (fun j => ((Af (a + j) : Nat) : Int)) := ⟨_, rfl⟩
                    have HZL : Hid (zs.length = c) := by show _ = _; rw [hzs]; simp
                    have HZA : Hid (∀ j, j < zs.length → F (a + j) = zs.getD j 0) := fun j hj => by
                      rw [hRest.out (a + j) (by rw [← HAE.out]; omega) (by have := HZL.out; omega), hzs]
                      have : j < c := by have := HZL.out; omega
                      simp [List.getD, this]
                    rw [← hzs] at HSEL
                    clear hzs
                    obtain ⟨ys, hys⟩ : ∃ ys : List Int, ys = zs.mergeSort fun x y => decide (x ≤ y) := ⟨_, rfl⟩
                    have HYL : Hid (ys.length = c) := by show _ = _; rw [hys, List.length_mergeSort]; exact HZL.out
                    have HCO : Hid (Lib.compact ys = (nbr n x y m v).map (fun u : Nat => (u : Int))) := by show _ = _; rw [hys]; exact HSEL.out
                    have HYS : Hid (ys = zs.mergeSort fun x y => decide (x ≤ y)) := hys
                    clear hys
                    have HNL : Hid ((Lib.compact ys).length = (nbr n x y m v).length) := by show _ = _; rw [HCO.out]; simp
                    have HLE : Hid ((Lib.compact ys).length ≤ c) := by
                      show _ ≤ _
                      rw [← HYL.out]
                      unfold Lib.compact Lib.compactUpTo
                      simpa using List.length_filter_le (Lib.keeps ys.toArray) (List.range ys.length)
                    go_wp2_with (first
                      | go_quiet (fail)
                      | (
                        go_at_call 42
                        have ct := Try.slices_Sort_int A a (m - a) zs (wr.drewN nq) (Arr.holds (hA.out.drewN nq) a zs (by have := HZL.out; omega) HZA.out) hA.out.lt (by have := HZL.out; omega)
                        rw [HZL.out, ← HYS.out] at ct
                        refine ct.mono ?_
                        rintro e w8 ⟨rfl, k8, os8, hw8⟩
                        have HA8 : Hid (Arr w8 A 3 m (iv (putF F a ys))) := by rw [hw8]; exact (hA.out.drewN nq).put a ys k8 os8
                        have HO8 : Hid (Only (fun i => i = A) wr w8) := by rw [hw8]; exact (Only.drewN wr nq _).trans (Only.put _ _ _ _ _ _ _)
                        clear hw8 ct)
                      | (
                        go_at_call 43
                        have ct := Try.slices_Compact_int A a (m - a) ys w8 (Arr.holds HA8.out a ys (by have := HYL.out; omega) (fun j hj => by simp only [putF]; rw [if_pos (by omega)]; congr 1; omega)) (by have := HYL.out; omega) (by have := HYL.out; omega)
                        rw [HYL.out] at ct
                        refine ct.mono ?_
                        rintro e w9 ⟨rfl, k9, hw9⟩
                        have HA9 : Hid (Arr w9 A 3 m (iv (putF (putF F a ys) a (Lib.compact ys ++ List.replicate (c - (Lib.compact ys).length) 0)))) := by
                          have := HA8.out.put a (Lib.compact ys ++ List.replicate (c - (Lib.compact ys).length) 0) k9 #[]
                          rw [Sort.grow_empty] at this
                          rw [hw9]; exact this
                        have HO9 : Hid (Only (fun i => i = A) wr w9) := by
                          have := Only.put (Value.int .i64) w8 A a k9 (Lib.compact ys ++ List.replicate (c - (Lib.compact ys).length) 0).toArray #[]
                          rw [Sort.grow_empty] at this
                          rw [hw9]; exact HO8.out.trans this
                        have HL9 : Hid (Arr w9 L 26 n val) := hL.out.only HO9.out (by omega)
                        have cl9 := HL9.out.cell hvn
                        have fl9 := HL9.out.free v
                        clear hw9 ct))
                    go_roundg (n - (v + 1))
                    case measure => omega
                    case rel =>
                      refine ⟨v + 1, putF (putF F a ys) a (Lib.compact ys ++ List.replicate (c - (Lib.compact ys).length) 0), upd val v (.slice (some ⟨A, a, none⟩) (Lib.compact ys).length (m - a)), rfl, by omega, by go_num, ?_, ?_, ?_, ?_, ?_, ?_⟩
                      · exact (hS.out.only HO9.out (by omega)).other (by show S ≠ L; omega) _
                      · exact HA9.out.other (by show A ≠ L; omega) _
                      · exact HL9.out.set v _
                      · exact (hB.out.trans (HO9.out.below (Nat.le_trans hSs hB.out.size) (fun k hk => by omega))).setCell (by show S ≤ L; omega) _
                      · intro p hp hpm
                        have hpc : a + c ≤ p := by simp only [pre, ← HAE.out, ← HCE.out] at hp; omega
                        have l1 : (Lib.compact ys ++ List.replicate (c - (Lib.compact ys).length) (0 : Int)).length = c := by simp; have := HLE.out; omega
                        simp only [putF, l1, HYL.out]
                        rw [if_neg (by omega), if_neg (by omega)]
                        exact hRest.out p (by rw [← HAE.out]; omega) hpm
                      · intro u hu
                        have l1 : (Lib.compact ys ++ List.replicate (c - (Lib.compact ys).length) (0 : Int)).length = c := by simp; have := HLE.out; omega
                        by_cases huv : u = v
                        · subst huv
                          refine ⟨some ⟨A, a, none⟩, m - a, by simp [upd, HNL.out], Or.inr (by rw [HAE.out]), fun j hj => ?_, by rw [← HAE.out, ← HNL.out]; have := HLE.out; omega⟩
                          have hj' : j < (Lib.compact ys).length := by rw [HNL.out]; exact hj
                          simp only [putF, l1]
                          rw [← HAE.out, if_pos (by have := HLE.out; omega), show a + j - a = j by omega]
                          rw [List.getD_eq_getElem?_getD, List.getElem?_append_left hj', HCO.out]
                          simp [hj]
                        · obtain ⟨ao, cc, e1, e2, e3, e4⟩ := hDone.out u (by omega)
                          refine ⟨ao, cc, by simp [upd, huv, e1], e2, fun j hj => ?_, e4⟩
                          have hpu := pre_mono x m (u + 1) v (by omega)
                          have hlen : (nbr n x y m u).length ≤ cnt x u m := HLN.out u
                          simp only [pre, ← HAE.out] at hpu
                          simp only [putF, l1, HYL.out]
                          rw [if_neg (by omega), if_neg (by omega)]
                          exact e3 j hj
                · obtain rfl : n = v := by omega
                  go_wp2_with fail
                  go_ret
                  have ex : (fun k => P k 0) = x := funext HX.out
                  have ey : (fun k => P k 1) = y := funext HY.out
                  refine ⟨L, A, rfl, by rw [← HSE.out]; omega, by omega, ?_, by rw [← HSE.out]; exact hB.out⟩
                  rw [ex, ey]
                  refine ⟨val, F, m, hL.out, hA.out, fun u hu => ?_⟩
                  obtain ⟨ao, cc, e1, e2, e3, e4⟩ := hDone.out u hu
                  exact ⟨ao, cc, pre x m u, e1, e2, e3, e4⟩


set_option maxRecDepth 100000 in
set_option maxHeartbeats 4000000 in
theorem adj1_any (w : World) (E m n : Nat) (P : Nat → Nat → Nat) (hE : Arr w E 82 (2 * m) (pv P)) (hm : m ≤ 100000) (hn : n ≤ 100000) (hP : ∀ k j, k < m → j ≤ 1 → P k j < n) :
    Calls Try.prog 32 #[.int .i64 (n : Nat), .slice (some ⟨E, 0, none⟩) m m, .int .i64 1] w fun e w' => ∃ L A, e = .returned (.slice (some ⟨L, 0, none⟩) n n) ∧ w.heap.size ≤ A ∧ A < L ∧ Lists w' L A n (nbr n (fun k => P k 1) (fun k => P k 0) m) ∧ Below w.heap.size w w' := by
  have HE : Hid (Arr w E 82 (2 * m) (pv P)) := hE
  have HP : Hid (∀ k j, k < m → j ≤ 1 → P k j < n) := hP
  have hElt := hE.lt
  clear hE hP
  obtain ⟨x, hx⟩ : ∃ x : Nat → Nat, x = fun k => P k 1 := ⟨_, rfl⟩
  obtain ⟨y, hy⟩ : ∃ y : Nat → Nat, y = fun k => P k 0 := ⟨_, rfl⟩
  have HX : Hid (∀ k, P k 1 = x k) := fun k => by rw [hx]
  have HY : Hid (∀ k, P k 0 = y k) := fun k => by rw [hy]
  clear hx hy
  have HXN : Hid (∀ k, k < m → x k < n) := fun k hk => by rw [← HX.out k]; exact HP.out k _ hk (by omega)
  obtain ⟨S, hS⟩ : ∃ S, S = w.heap.size := ⟨_, rfl⟩
  have HSE : Hid (S = w.heap.size) := hS
  go_enter Try.func32, Try.ntmps32
  go_wp2_with (first
    | (
      refine make_arr w rfl _ _ 26 rfl 3 (.int .i64 0) 8 Try.underlying26 Try.info3 rfl .i64 .i64 _ _ (n + 1) rfl rfl (by omega) (by omega) (by omega) (by unfold maxLen; omega) ?_
      intro w1 hA1 hN1))
  have HA1 : Hid (Arr w1 S 3 (n + 1) (nv (st1 x 0))) := by
    rw [st1_zero, hS]; exact hA1
  have HB1 : Hid (Below S w w1) := by rw [hS]; exact hN1.out.below
  have hSs : S ≤ w.heap.size := by omega
  rw [← hS] at hElt ⊢
  clear hS hA1 hN1
  go_loopg [23] m (fun z i wr => ∃ k : Nat, z = m - k ∧ k ≤ m ∧ i = .int .i64 k ∧ Hid (Arr wr S 3 (n + 1) (nv (st1 x k))) ∧ Hid (Below S w wr))
  case atStart => exact ⟨0, by omega, by omega, rfl, HA1, HB1⟩
  case round =>
    obtain ⟨k, rfl, hk, rfl, hA, hB⟩ := hrel
    by_cases hlt : k < m
    · have hEr : Arr wr E 82 (2 * m) (pv P) := HE.out.below hB.out hElt
      have c0 := hEr.cell (i := k * 2) (by omega)
      have c1 := hEr.cell (i := k * 2 + 1) (by omega)
      rw [pv_even, HY.out] at c0
      rw [pv_odd, HX.out] at c1
      have hxn := HXN.out k hlt
      have hcl := cnt_le x (x k) k
      have HA' : Hid (Arr (wr.alloc (.cells #[.int .i64 (y k : Nat), .int .i64 (x k : Nat)] 82)) S 3 (n + 1) (nv (st1 x k))) := hA.out.alloc _
      have cs := HA'.out.cell (i := x k + 1) (by omega)
      rw [show nv (st1 x k) (x k + 1) = .int .i64 ((cnt x (x k) k : Nat) : Int) by simp [nv, st1]] at cs
      have fs := HA'.out.free (x k + 1)
      have hSr : S ≤ wr.heap.size := Nat.le_trans hSs hB.out.size
      clear hEr
      go_wp2_with fail
      go_roundg (m - (k + 1))
      case measure => omega
      case rel =>
        refine ⟨k + 1, rfl, by omega, by go_num, ?_, ?_⟩
        · have := HA'.out.set (x k + 1) (.int .i64 ((cnt x (x k) k + 1 : Nat) : Int))
          rw [upd_nv, show cnt x (x k) k + 1 = st1 x k (x k + 1) + 1 by simp [st1], st1_step] at this
          exact this
        · exact (hB.out.alloc hSr _).setCell (Nat.le_refl _) _
    · obtain rfl : m = k := by omega
      have HA2 : Hid (Arr wr S 3 (n + 1) (nv (st2 x m 0))) := by rw [st2_zero]; exact hA
      obtain ⟨w2, hw2⟩ : ∃ w2 : World, w2 = wr := ⟨_, rfl⟩
      rw [← hw2] at HA2 hB ⊢
      clear hw2 hA
      go_wp2_with fail
      go_loopg [38] n (fun z i wr => ∃ v : Nat, z = n - v ∧ v ≤ n ∧ i = .int .i64 v ∧ Hid (Arr wr S 3 (n + 1) (nv (st2 x m v))) ∧ Hid (Below S w wr))
      case atStart => exact ⟨0, by omega, by omega, rfl, HA2, hB⟩
      case round =>
        obtain ⟨v, rfl, hv, rfl, hA, hB⟩ := hrel
        by_cases hvn : v < n
        · have c0 := hA.out.cell (i := v) (by omega)
          have c1 := hA.out.cell (i := v + 1) (by omega)
          have f1 := hA.out.free (v + 1)
          have hp1 : st2 x m v v ≤ m := by simp only [st2, Nat.le_refl, if_true]; exact pre_le HXN.out (by omega)
          have hp2 : st2 x m v (v + 1) ≤ m := by
            simp only [st2]
            rw [if_neg (by omega)]
            exact cnt_le x _ m
          rw [show nv (st2 x m v) v = .int .i64 ((st2 x m v v : Nat) : Int) from rfl] at c0
          rw [show nv (st2 x m v) (v + 1) = .int .i64 ((st2 x m v (v + 1) : Nat) : Int) from rfl] at c1
          go_wp2_with fail
          go_region
          all_goals (go_wp2_with fail)
          all_goals (go_roundg (n - (v + 1)))
          case measure => omega
          case rel =>
            refine ⟨v + 1, rfl, by omega, by go_num, ?_, ?_⟩
            · have := (hA.out.drewN 1).set (v + 1) (.int .i64 ((st2 x m v (v + 1) + st2 x m v v : Nat) : Int))
              rw [upd_nv, st2_step] at this
              exact this
            · exact hB.out.drew.setCell (Nat.le_refl _) _
        · obtain rfl : n = v := by omega
          have HA3 : Hid (Arr wr S 3 (n + 1) (nv (pre x m))) := hA.out.congr (fun i hi => by simp only [nv, st2]; rw [if_pos (by omega)])
          obtain ⟨w3, hw3⟩ : ∃ w3 : World, w3 = wr := ⟨_, rfl⟩
          rw [← hw3] at HA3 hB ⊢
          clear hw3 hA HA2 HA1 HB1
          have hzl : ((List.range n).map (fun i => ((pre x m i : Nat) : Int))).length = n := by simp
          go_wp2_with (first
            | (
              refine make_arr w3 rfl _ _ 26 rfl 3 (.int .i64 0) 8 Try.underlying26 Try.info3 rfl .i64 .i64 _ _ m rfl rfl rfl rfl (by omega) (by unfold maxLen; omega) ?_
              intro w4 hA4 hN4
              have HA4 : Hid (Arr w4 S 3 (n + 1) (nv (pre x m))) := HA3.out.new hN4.out)
            | (
              go_at_call 41
              refine (Try.slices_Clone_int S 0 n (n + 1) ((List.range n).map (fun i => ((pre x m i : Nat) : Int))) w4 (by simp) (by omega) ?_).mono ?_
              · intro j hj
                have hj' : j < n := by simpa using hj
                have := HA4.out.cell (i := j) (by omega)
                rw [Nat.zero_add, this]
                simp [nv, hj']
              rintro e w5 ⟨v', rfl, ho5, hne5, hb5⟩
              obtain ⟨G, c5, rfl, hG5, hO5⟩ := own_of_ints ho5 hne5
              have HO5 : Hid (Own w5 w4.heap.size 3 (.slice (some ⟨G, 0, none⟩) n c5) n (nv (pre x m))) := hO5
              have HB5 : Hid (Below w4.heap.size w4 w5) := hb5
              clear ho5 hb5 hne5 hO5))
          obtain ⟨A, hAe⟩ : ∃ A, A = w3.heap.size := ⟨_, rfl⟩
          have hS3 : S < A := by rw [hAe]; exact HA3.out.lt
          have hAG : A < G := by have := hN4.out.lt; omega
          have HA5 : Hid (Arr w5 A 3 m (nv (fun _ => 0))) := by rw [hAe]; exact hA4.out.below HB5.out hN4.out.lt
          have HS5 : Hid (Arr w5 S 3 (n + 1) (nv (pre x m))) := HA4.out.below HB5.out HA4.out.lt
          have HG5 : Hid (Row w5 G 3 n (nv (fi x m 0))) := by rw [fi_zero]; exact HO5.out.row
          have HB6 : Hid (Below S w w5) := (hB.out.trans (hN4.out.below.mono (by omega))).trans (HB5.out.mono (by have := hN4.out.lt; omega))
          rw [← hAe]
          clear hAe hA4 hN4 HA4 HO5 HB5 hB HA3 hzl
          go_loopg [62] m (fun z i wr => ∃ (k : Nat) (Af : Nat → Nat), z = m - k ∧ k ≤ m ∧ i = .int .i64 k ∧ Hid (Arr wr S 3 (n + 1) (nv (pre x m))) ∧ Hid (Arr wr A 3 m (nv Af)) ∧ Hid (Row wr G 3 n (nv (fi x m k))) ∧ Hid (Below S w wr) ∧ Hid (Fill x y m k Af))
          case atStart => exact ⟨0, fun _ => 0, by omega, by omega, rfl, HS5, HA5, HG5, HB6, Fill.start _ _ _ _⟩
          case round =>
            obtain ⟨k, Af, rfl, hk, rfl, hS, hA, hG, hB, hF⟩ := hrel
            by_cases hlt : k < m
            · have hEr : Arr wr E 82 (2 * m) (pv P) := HE.out.below hB.out hElt
              have c0 := hEr.cell (i := k * 2) (by omega)
              have c1 := hEr.cell (i := k * 2 + 1) (by omega)
              rw [pv_even, HY.out] at c0
              rw [pv_odd, HX.out] at c1
              have hxn := HXN.out k hlt
              have hroom := cnt_room (x := x) hlt
              have hpl : pre x m (x k) + cnt x (x k) m ≤ m := pre_le (v := x k + 1) HXN.out (by omega)
              obtain ⟨q, hq⟩ : ∃ q, q = fi x m k (x k) := ⟨_, rfl⟩
              have hqm : q < m := by simp only [fi] at hq; omega
              have HQ : Hid (q = fi x m k (x k)) := hq
              have cg := (hG.out.alloc (.cells #[.int .i64 (y k : Nat), .int .i64 (x k : Nat)] 82)).cell hxn
              rw [show nv (fi x m k) (x k) = .int .i64 ((q : Nat) : Int) by rw [hq]; rfl] at cg
              have ca := (hA.out.alloc (.cells #[.int .i64 (y k : Nat), .int .i64 (x k : Nat)] 82)).cell hqm
              have fa := (hA.out.alloc (.cells #[.int .i64 (y k : Nat), .int .i64 (x k : Nat)] 82)).free q
              have hSr : S ≤ wr.heap.size := Nat.le_trans hSs hB.out.size
              have hAr := hA.out.lt
              have hGr := hG.out.lt
              have HG' : Hid (Row ((wr.setCell ⟨A, q, none⟩ (.int .i64 (y k : Nat))).alloc (.cells #[.int .i64 (y k : Nat), .int .i64 (x k : Nat)] 82)) G 3 n (nv (fi x m k))) := (hG.out.other (by show G ≠ A; omega) _).alloc _
              have cg' := HG'.out.cell hxn
              rw [show nv (fi x m k) (x k) = .int .i64 ((q : Nat) : Int) by rw [hq]; rfl] at cg'
              have fg' := HG'.out.free (x k)
              clear hEr hq
              go_wp2_with fail
              go_region
              all_goals (go_wp2_with fail)
              all_goals (go_roundg (m - (k + 1)))
              case measure => omega
              case rel =>
                refine ⟨k + 1, upd Af q (y k), rfl, by omega, by go_num, ?_, ?_, ?_, ?_, ?_⟩
                · exact ((hS.out.other (by show S ≠ A; omega) _).other (by show S ≠ G; omega) _).alloc _
                · have := hA.out.set q (.int .i64 (y k : Nat))
                  rw [upd_nv] at this
                  exact (this.other (by show A ≠ G; omega) _).alloc _
                · have := (hG.out.other (a := ⟨A, q, none⟩) (by show G ≠ A; omega) (.int .i64 (y k : Nat))).set (x k) (.int .i64 ((q + 1 : Nat) : Int)) hxn
                  have e : upd (fi x m k) (x k) (q + 1) = fi x m (k + 1) := by rw [HQ.out, fi_step]
                  rw [upd_nv, e] at this
                  exact this.alloc _
                · exact ((hB.out.setCell (p := ⟨A, q, none⟩) (by show S ≤ A; omega) (.int .i64 (y k : Nat))).setCell (p := ⟨G, x k, none⟩) (by show S ≤ G; omega) (.int .i64 ((q : Int) + 1))).alloc (by rw [size_setCell, size_setCell]; exact hSr) (.cells #[.int .i64 (y k : Nat), .int .i64 (x k : Nat)] 82) |>.drew
                · rw [HQ.out]; exact hF.out.step hlt
            · obtain rfl : m = k := by omega
              obtain ⟨w6, hw6⟩ : ∃ w6 : World, w6 = wr := ⟨_, rfl⟩
              rw [← hw6] at hS hA hB ⊢
              have HYN : Hid (∀ k, k < m → y k < n) := fun k hk => by rw [← HY.out k]; exact HP.out k _ hk (by omega)
              have HF : Hid (Fill x y m m Af) := hF
              have HLN : Hid (∀ u, (nbr n x y m u).length ≤ cnt x u m) := fun u => hF.out.len_le HYN.out u
              clear hw6 hG hF HS5 HA5 HG5 HB6
              go_wp2_with (
                refine make_arr w6 rfl _ _ 36 rfl 26 (.slice none 0 0) 24 Try.underlying36 Try.info26 rfl .i64 .i64 _ _ n rfl rfl rfl rfl (by omega) (by unfold maxLen; omega) ?_
                intro w7 hL7 hN7
                have HS7 : Hid (Arr w7 S 3 (n + 1) (nv (pre x m))) := hS.out.new hN7.out
                have HA7 : Hid (Arr w7 A 3 m (nv Af)) := hA.out.new hN7.out
                have HB7 : Hid (Below S w w7) := hB.out.trans (hN7.out.below.mono (Nat.le_trans hSs hB.out.size)))
              obtain ⟨L, hLe⟩ : ∃ L, L = w6.heap.size := ⟨_, rfl⟩
              have hAL : A < L := by rw [hLe]; exact hA.out.lt
              rw [← hLe] at hL7 ⊢
              clear hLe hS hA hB hN7
              go_loopg [90] n (fun z i wr => ∃ (v : Nat) (F : Nat → Int) (val : Nat → Value), z = n - v ∧ v ≤ n ∧ i = .int .i64 v ∧ Hid (Arr wr S 3 (n + 1) (nv (pre x m))) ∧ Hid (Arr wr A 3 m (iv F)) ∧ Hid (Arr wr L 26 n val) ∧ Hid (Below S w wr) ∧ Hid (∀ p, pre x m v ≤ p → p < m → F p = (Af p : Nat)) ∧ Hid (∀ u, u < v → LOK A n m x y F val u))
              case atStart => exact ⟨0, fun p => (Af p : Nat), _, by omega, by omega, rfl, HS7, HA7, hL7, HB7, fun p _ _ => rfl, fun u hu => by omega⟩
              case round =>
                obtain ⟨v, F, val, rfl, hv, rfl, hS, hA, hL, hB, hRest, hDone⟩ := hrel
                by_cases hvn : v < n
                · have c0 := hS.out.cell (i := v) (by omega)
                  have c1 := hS.out.cell (i := v + 1) (by omega)
                  obtain ⟨a, ha⟩ : ∃ a, a = pre x m v := ⟨_, rfl⟩
                  obtain ⟨c, hc⟩ : ∃ c, c = cnt x v m := ⟨_, rfl⟩
                  rw [show nv (pre x m) v = .int .i64 ((a : Nat) : Int) by rw [ha]; rfl] at c0
                  rw [show nv (pre x m) (v + 1) = .int .i64 ((a + c : Nat) : Int) by rw [ha, hc]; rfl] at c1
                  have hacm : a + c ≤ m := by rw [ha, hc]; exact pre_le (v := v + 1) HXN.out (by omega)
                  have HAE : Hid (a = pre x m v) := ha
                  have HCE : Hid (c = cnt x v m) := hc
                  clear ha hc
                  have HSEL := HF.out.sel HYN.out v
                  rw [← HAE.out, ← HCE.out] at HSEL
                  have HSEL : Hid (_ = _) := HSEL
                  by_cases h0 : c = 0
                  · have HC0 : Hid (c = 0) := h0
                    by_cases ham : a = m
                    · have fl := hL.out.free v
                      have cl := hL.out.cell hvn
                      go_wp2_with (first
                        | go_quiet (fail)
                        | (
                          go_at_call 42
                          refine (Try.slices_Sort_int_none _ _ _).mono ?_
                          rintro e w8 ⟨rfl, hw8⟩
                          obtain rfl := hw8.symm)
                        | (
                          go_at_call 43
                          refine (Try.slices_Compact_int_empty _ _ _).mono ?_
                          rintro e w9 ⟨rfl, hw9⟩
                          obtain rfl := hw9.symm))
                      go_roundg (n - (v + 1))
                      case measure => omega
                      case rel =>
                        have hnb : (nbr n x y m v).length = 0 := by
                          have := HSEL.out
                          rw [HC0.out] at this
                          have := congrArg List.length this
                          simpa [Lib.compact, Lib.compactUpTo] using this.symm
                        refine ⟨v + 1, F, upd val v (.slice (some ⟨A, 0, none⟩) 0 0), rfl, by omega, by go_num, ?_, ?_, ?_, ?_, ?_, ?_⟩
                        · exact (hS.out.drewN _).other (by show S ≠ L; omega) _
                        · exact (hA.out.drewN _).other (by show A ≠ L; omega) _
                        · exact (hL.out.drewN _).set v _
                        · exact (below_drewN hB.out _).setCell (by show S ≤ L; omega) _
                        · exact fun p hp hpm => hRest.out p (by rw [← HAE.out]; simp only [pre, ← HAE.out] at hp; omega) hpm
                        · intro u hu
                          by_cases huv : u = v
                          · subst huv
                            refine ⟨some ⟨A, 0, none⟩, 0, by simp [upd, hnb], Or.inl hnb, fun j hj => by omega, by rw [hnb, ← HAE.out]; omega⟩
                          · obtain ⟨ao, cc, e1, e2, e3, e4⟩ := hDone.out u (by omega)
                            exact ⟨ao, cc, by simp [upd, huv, e1], e2, e3, e4⟩
                    · have fl := hL.out.free v
                      have cl := hL.out.cell hvn
                      go_wp2_with (first
                        | go_quiet (fail)
                        | (
                          go_at_call 42
                          refine (Try.slices_Sort_int_none _ _ _).mono ?_
                          rintro e w8 ⟨rfl, hw8⟩
                          obtain rfl := hw8.symm)
                        | (
                          go_at_call 43
                          refine (Try.slices_Compact_int_empty _ _ _).mono ?_
                          rintro e w9 ⟨rfl, hw9⟩
                          obtain rfl := hw9.symm))
                      go_roundg (n - (v + 1))
                      case measure => omega
                      case rel =>
                        have hnb : (nbr n x y m v).length = 0 := by
                          have := HSEL.out
                          rw [HC0.out] at this
                          have := congrArg List.length this
                          simpa [Lib.compact, Lib.compactUpTo] using this.symm
                        refine ⟨v + 1, F, upd val v (.slice (some ⟨A, a, none⟩) 0 (m - a)), rfl, by omega, by go_num, ?_, ?_, ?_, ?_, ?_, ?_⟩
                        · exact (hS.out.drewN _).other (by show S ≠ L; omega) _
                        · exact (hA.out.drewN _).other (by show A ≠ L; omega) _
                        · exact (hL.out.drewN _).set v _
                        · exact (below_drewN hB.out _).setCell (by show S ≤ L; omega) _
                        · exact fun p hp hpm => hRest.out p (by rw [← HAE.out]; simp only [pre, ← HAE.out] at hp; omega) hpm
                        · intro u hu
                          by_cases huv : u = v
                          · subst huv
                            refine ⟨some ⟨A, a, none⟩, (m - a), by simp [upd, hnb], Or.inl hnb, fun j hj => by omega, by rw [hnb, ← HAE.out]; omega⟩
                          · obtain ⟨ao, cc, e1, e2, e3, e4⟩ := hDone.out u (by omega)
                            exact ⟨ao, cc, by simp [upd, huv, e1], e2, e3, e4⟩
                  · have ham : ¬ a = m := by omega
                    have fl := hL.out.free v
                    have cl := hL.out.cell hvn
                    obtain ⟨zs, hzs⟩ : ∃ zs : List Int, zs = (List.range c).map (fun j => ((Af (a + j) : Nat) : Int)) := ⟨_, rfl⟩
                    have HZL : Hid (zs.length = c) := by show _ = _; rw [hzs]; simp
                    have HZA : Hid (∀ j, j < zs.length → F (a + j) = zs.getD j 0) := fun j hj => by
                      rw [hRest.out (a + j) (by rw [← HAE.out]; omega) (by have := HZL.out; omega), hzs]
                      have : j < c := by have := HZL.out; omega
                      simp [List.getD, this]
                    rw [← hzs] at HSEL
                    clear hzs
                    obtain ⟨ys, hys⟩ : ∃ ys : List Int, ys = zs.mergeSort fun x y => decide (x ≤ y) := ⟨_, rfl⟩
                    have HYL : Hid (ys.length = c) := by show _ = _; rw [hys, List.length_mergeSort]; exact HZL.out
                    have HCO : Hid (Lib.compact ys = (nbr n x y m v).map (fun u : Nat => (u : Int))) := by show _ = _; rw [hys]; exact HSEL.out
                    have HYS : Hid (ys = zs.mergeSort fun x y => decide (x ≤ y)) := hys
                    clear hys
                    have HNL : Hid ((Lib.compact ys).length = (nbr n x y m v).length) := by show _ = _; rw [HCO.out]; simp
                    have HLE : Hid ((Lib.compact ys).length ≤ c) := by
                      show _ ≤ _
                      rw [← HYL.out]
                      unfold Lib.compact Lib.compactUpTo
                      simpa using List.length_filter_le (Lib.keeps ys.toArray) (List.range ys.length)
                    go_wp2_with (first
                      | go_quiet (fail)
                      | (
                        go_at_call 42
                        have ct := Try.slices_Sort_int A a (m - a) zs (wr.drewN nq) (Arr.holds (hA.out.drewN nq) a zs (by have := HZL.out; omega) HZA.out) hA.out.lt (by have := HZL.out; omega)
                        rw [HZL.out, ← HYS.out] at ct
                        refine ct.mono ?_
                        rintro e w8 ⟨rfl, k8, os8, hw8⟩
                        have HA8 : Hid (Arr w8 A 3 m (iv (putF F a ys))) := by rw [hw8]; exact (hA.out.drewN nq).put a ys k8 os8
                        have HO8 : Hid (Only (fun i => i = A) wr w8) := by rw [hw8]; exact (Only.drewN wr nq _).trans (Only.put _ _ _ _ _ _ _)
                        clear hw8 ct)
                      | (
                        go_at_call 43
                        have ct := Try.slices_Compact_int A a (m - a) ys w8 (Arr.holds HA8.out a ys (by have := HYL.out; omega) (fun j hj => by simp only [putF]; rw [if_pos (by omega)]; congr 1; omega)) (by have := HYL.out; omega) (by have := HYL.out; omega)
                        rw [HYL.out] at ct
                        refine ct.mono ?_
                        rintro e w9 ⟨rfl, k9, hw9⟩
                        have HA9 : Hid (Arr w9 A 3 m (iv (putF (putF F a ys) a (Lib.compact ys ++ List.replicate (c - (Lib.compact ys).length) 0)))) := by
                          have := HA8.out.put a (Lib.compact ys ++ List.replicate (c - (Lib.compact ys).length) 0) k9 #[]
                          rw [Sort.grow_empty] at this
                          rw [hw9]; exact this
                        have HO9 : Hid (Only (fun i => i = A) wr w9) := by
                          have := Only.put (Value.int .i64) w8 A a k9 (Lib.compact ys ++ List.replicate (c - (Lib.compact ys).length) 0).toArray #[]
                          rw [Sort.grow_empty] at this
                          rw [hw9]; exact HO8.out.trans this
                        have HL9 : Hid (Arr w9 L 26 n val) := hL.out.only HO9.out (by omega)
                        have cl9 := HL9.out.cell hvn
                        have fl9 := HL9.out.free v
                        clear hw9 ct))
                    go_roundg (n - (v + 1))
                    case measure => omega
                    case rel =>
                      refine ⟨v + 1, putF (putF F a ys) a (Lib.compact ys ++ List.replicate (c - (Lib.compact ys).length) 0), upd val v (.slice (some ⟨A, a, none⟩) (Lib.compact ys).length (m - a)), rfl, by omega, by go_num, ?_, ?_, ?_, ?_, ?_, ?_⟩
                      · exact (hS.out.only HO9.out (by omega)).other (by show S ≠ L; omega) _
                      · exact HA9.out.other (by show A ≠ L; omega) _
                      · exact HL9.out.set v _
                      · exact (hB.out.trans (HO9.out.below (Nat.le_trans hSs hB.out.size) (fun k hk => by omega))).setCell (by show S ≤ L; omega) _
                      · intro p hp hpm
                        have hpc : a + c ≤ p := by simp only [pre, ← HAE.out, ← HCE.out] at hp; omega
                        have l1 : (Lib.compact ys ++ List.replicate (c - (Lib.compact ys).length) (0 : Int)).length = c := by simp; have := HLE.out; omega
                        simp only [putF, l1, HYL.out]
                        rw [if_neg (by omega), if_neg (by omega)]
                        exact hRest.out p (by rw [← HAE.out]; omega) hpm
                      · intro u hu
                        have l1 : (Lib.compact ys ++ List.replicate (c - (Lib.compact ys).length) (0 : Int)).length = c := by simp; have := HLE.out; omega
                        by_cases huv : u = v
                        · subst huv
                          refine ⟨some ⟨A, a, none⟩, m - a, by simp [upd, HNL.out], Or.inr (by rw [HAE.out]), fun j hj => ?_, by rw [← HAE.out, ← HNL.out]; have := HLE.out; omega⟩
                          have hj' : j < (Lib.compact ys).length := by rw [HNL.out]; exact hj
                          simp only [putF, l1]
                          rw [← HAE.out, if_pos (by have := HLE.out; omega), show a + j - a = j by omega]
                          rw [List.getD_eq_getElem?_getD, List.getElem?_append_left hj', HCO.out]
                          simp [hj]
                        · obtain ⟨ao, cc, e1, e2, e3, e4⟩ := hDone.out u (by omega)
                          refine ⟨ao, cc, by simp [upd, huv, e1], e2, fun j hj => ?_, e4⟩
                          have hpu := pre_mono x m (u + 1) v (by omega)
                          have hlen : (nbr n x y m u).length ≤ cnt x u m := HLN.out u
                          simp only [pre, ← HAE.out] at hpu
                          simp only [putF, l1, HYL.out]
                          rw [if_neg (by omega), if_neg (by omega)]
                          exact e3 j hj
                · obtain rfl : n = v := by omega
                  go_wp2_with fail
                  go_ret
                  have ex : (fun k => P k 1) = x := funext HX.out
                  have ey : (fun k => P k 0) = y := funext HY.out
                  refine ⟨L, A, rfl, by rw [← HSE.out]; omega, by omega, ?_, by rw [← HSE.out]; exact hB.out⟩
                  rw [ex, ey]
                  refine ⟨val, F, m, hL.out, hA.out, fun u hu => ?_⟩
                  obtain ⟨ao, cc, e1, e2, e3, e4⟩ := hDone.out u hu
                  exact ⟨ao, cc, pre x m u, e1, e2, e3, e4⟩

end Go.Proofs.Qxb6616383a
