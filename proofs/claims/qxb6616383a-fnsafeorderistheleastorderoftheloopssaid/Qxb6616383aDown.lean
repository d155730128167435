/-
  The queue of groups: its methods, container/heap's down.
-/
import Derived.Test.Qxb6616383aLaws
import Derived.Test.Qxb6616383aHeap
import Derived.Test.Qxb6616383aBytes
import Derived.Handy
import Derived.Deep.RegionLaw
import Derived.Deep.RegionLawGrows
namespace Go.Proofs.Qxb6616383a
open Go.RowKit
open Plain
/-- Nothing but the count of draws has turned. -/
structure Calm (w w' : World) : Prop where
  os : w'.os = w.os
  tape : w'.tape = w.tape
  output : w'.output = w.output
  heap : w'.heap = w.heap
theorem Calm.drewN (w : World) (k : Nat) : Calm w (w.drewN k) := ⟨rfl, rfl, rfl, rfl⟩
theorem Calm.only {w w' : World} (h : Calm w w') (S : Nat → Prop) : Only S w w' := ⟨h.os, h.tape, h.output, by rw [h.heap]; exact Nat.le_refl _, fun _ _ _ => by rw [h.heap]⟩
theorem Calm.size {w w' : World} (h : Calm w w') : w'.heap.size = w.heap.size := by rw [h.heap]
theorem Calm.trans {a b c : World} (h : Calm a b) (k : Calm b c) : Calm a c := ⟨k.os.trans h.os, k.tape.trans h.tape, k.output.trans h.output, k.heap.trans h.heap⟩
/-- The queue behind the pointer: its slice v, n numbers q. -/
structure HeapAt (w : World) (R : Nat) (v : Value) (n : Nat) (q : Nat → Nat) : Prop where
  box : Arr w R 62 1 (fun _ => v)
  own : Own w (R + 1) 3 v n (nv q)
theorem Row.some_cell {w : World} {g t n : Nat} {f : Nat → Value} (h : Row w g t n f) {j : Nat} (hj : j < n) (i : Nat) (v : Value) : ∃ z, (w.setCell ⟨g, i, none⟩ v).cell? ⟨g, j, none⟩ = some z := by
  obtain ⟨cur, hh, hl, hc⟩ := h
  have hs : j < (cur.setIfInBounds i v).size := by simp; omega
  have := heap_setCell_at w g i v cur t (0, 0) hh
  simp only [World.cell?, this]
  exact ⟨(cur.setIfInBounds i v)[j], by rw [Array.getElem?_eq_getElem hs]; rfl⟩
set_option maxRecDepth 100000 in
set_option maxHeartbeats 4000000 in
theorem less_any (w : World) (g n c i j : Nat) (q : Nat → Nat) (hi : i < n) (hj : j < n) (hr : Row w g 3 n (nv q)) (x y : Int) (hx : x = (i : Nat)) (hy : y = (j : Nat)) :
    Calls Try.prog 112 #[.slice (some ⟨g, 0, none⟩) n c, .int .i64 x, .int .i64 y] w fun e w' => e = .returned (.bool (decide (q i < q j))) ∧ Calm w w' := by
  subst hx hy
  have c1 := hr.cell hi
  have c2 := hr.cell hj
  rw [show nv q i = .int .i64 (q i : Nat) from rfl] at c1
  rw [show nv q j = .int .i64 (q j : Nat) from rfl] at c2
  clear hr
  go_enter Try.func112, Try.ntmps112
  go_wp2_with (go_quiet (fail))
  go_ret
  exact ⟨ret_bool (by simp), Calm.drewN _ _⟩
/-- Two cells of the block g have changed places. -/
structure Swapped (w w' : World) (g i j : Nat) (x y : Value) : Prop where
  only : Only (fun k => k = g) w w'
  size : w'.heap.size = w.heap.size
  at_ : ∀ cur t, w.heap[g]? = some (.cells cur t (0, 0)) → w'.heap[g]? = some (.cells ((cur.setIfInBounds i y).setIfInBounds j x) t (0, 0))
theorem Swapped.of (w : World) (g i j : Nat) (x y : Value) {w' : World} (ho : w'.os = w.os) (ht : w'.tape = w.tape) (hp : w'.output = w.output) (hh : w'.heap = ((w.setCell ⟨g, i, none⟩ y).setCell ⟨g, j, none⟩ x).heap) : Swapped w w' g i j x y := by
  have hsz : w'.heap.size = w.heap.size := by rw [hh, size_setCell, size_setCell]
  refine ⟨⟨ho, ht, hp, by omega, fun k _ hk => ?_⟩, hsz, fun cur t hc => ?_⟩
  · rw [hh, Below.heap_setCell _ _ _ _ hk, Below.heap_setCell _ _ _ _ hk]
  · rw [hh]
    exact heap_setCell_at _ _ _ _ _ _ _ (heap_setCell_at _ _ _ _ _ _ _ hc)
theorem set_set_comm (cur : Array Value) (i j : Nat) (x y : Value) (h : i = j → x = y) : (cur.setIfInBounds j x).setIfInBounds i y = (cur.setIfInBounds i y).setIfInBounds j x := by
  by_cases e : i = j
  · subst e; rw [h rfl]
  · apply Array.ext
    · simp
    · intro k h1 h2
      simp only [Array.size_setIfInBounds] at h1
      rw [Array.getElem_setIfInBounds (by simpa using h1), Array.getElem_setIfInBounds (by simpa using h1), Array.getElem_setIfInBounds (by simpa using h1), Array.getElem_setIfInBounds (by simpa using h1)]
      by_cases a1 : i = k
      · have : ¬ j = k := by omega
        simp [a1, this]
      · simp [a1]
theorem Swapped.of' (w : World) (g i j : Nat) (x y : Value) (hxy : i = j → x = y) {w' : World} (ho : w'.os = w.os) (ht : w'.tape = w.tape) (hp : w'.output = w.output) (hh : w'.heap = ((w.setCell ⟨g, j, none⟩ x).setCell ⟨g, i, none⟩ y).heap) : Swapped w w' g i j x y := by
  have h := Swapped.of w g j i y x ho ht hp hh
  refine ⟨h.only, h.size, fun cur t hc => ?_⟩
  rw [h.at_ cur t hc, set_set_comm cur i j x y hxy]
theorem Swapped.own {w w' : World} {g i j n c B : Nat} {q : Nat → Nat} (h : Swapped w w' g i j (.int .i64 (q i : Nat)) (.int .i64 (q j : Nat))) (hi : i < n) (hj : j < n) (ho : Own w B 3 (.slice (some ⟨g, 0, none⟩) n c) n (nv q)) : Own w' B 3 (.slice (some ⟨g, 0, none⟩) n c) n (nv (swp q i j)) := by
  refine ⟨by simp, ?_⟩
  rcases ho.2 with hn | ⟨g', cap, cur, hv, hB, hgg, hnc, hm, hs, ht⟩
  · cases hn.1
  · simp only [Value.slice.injEq, Option.some.injEq, Addr.mk.injEq] at hv
    obtain ⟨⟨rfl, _⟩, _, rfl⟩ := hv
    refine .inr ⟨g, c, _, rfl, hB, h.at_ cur 3 hgg, hnc, hm, by simpa using hs, ?_⟩
    simp only [Nat.mul_one] at ht hs ⊢
    apply List.ext_getElem?
    intro k
    have hk : ∀ k, k < n → cur.toList[k]? = some (nv q k) := by
      intro k hk
      have : (cur.toList.take n)[k]? = some (nv q k) := by rw [ht]; simp [hk]
      rw [List.getElem?_take, if_pos hk] at this
      exact this
    rw [List.getElem?_take]
    by_cases hkn : k < n
    · rw [if_pos hkn]
      simp only [Array.toList_setIfInBounds, List.getElem?_set, List.length_set, Array.length_toList]
      rw [hk k hkn]
      simp only [List.getElem?_map, List.getElem?_range hkn, Option.map_some]
      simp only [nv, swp_at]
      by_cases a1 : j = k
      · subst a1; simp; omega
      · by_cases a2 : i = k
        · subst a2; simp [a1, Ne.symm a1]; omega
        · simp [a1, a2, Ne.symm a1, Ne.symm a2]
    · rw [if_neg hkn]
      rw [List.getElem?_eq_none (by simp; omega)]
set_option maxRecDepth 100000 in
set_option maxHeartbeats 4000000 in
theorem swap_any (w : World) (g n c i j : Nat) (q : Nat → Nat) (hi : i < n) (hj : j < n) (hr : Row w g 3 n (nv q)) (x y : Int) (hx : x = (i : Nat)) (hy : y = (j : Nat)) :
    Calls Try.prog 113 #[.slice (some ⟨g, 0, none⟩) n c, .int .i64 x, .int .i64 y] w fun e w' => e = .returned (.tuple #[]) ∧ Swapped w w' g i j (.int .i64 (q i : Nat)) (.int .i64 (q j : Nat)) := by
  subst hx hy
  have c1 := hr.cell hi
  have c2 := hr.cell hj
  have f1 := hr.free i
  have f2 := hr.free j
  rw [show nv q i = .int .i64 (q i : Nat) from rfl] at c1
  rw [show nv q j = .int .i64 (q j : Nat) from rfl] at c2
  obtain ⟨z1, k1⟩ : ∃ z, (w.setCell ⟨g, i, none⟩ (.int .i64 (q j : Nat))).cell? ⟨g, j, none⟩ = some z := Row.some_cell hr hj _ _
  obtain ⟨z2, k2⟩ : ∃ z, (w.setCell ⟨g, j, none⟩ (.int .i64 (q i : Nat))).cell? ⟨g, i, none⟩ = some z := Row.some_cell hr hi _ _
  clear hr
  go_enter Try.func113, Try.ntmps113
  go_wp2_with fail
  go_region
  all_goals go_end0
  all_goals first
    | exact ⟨rfl, Swapped.of _ _ _ _ _ _ rfl rfl rfl rfl⟩
    | exact ⟨rfl, Swapped.of' _ _ _ _ _ _ (fun e => by rw [e]) rfl rfl rfl rfl⟩
/-! ### The queue's methods, as they are found behind the interface -/
theorem ld62 (R : Nat) (w : World) (v : Value) (h : w.cell? ⟨R, 0, none⟩ = some v) : (loadVar 62 ⟨R, 0, none⟩).run Try.prog w = .ok v w := by
  have e : (loadVar 62 ⟨R, 0, none⟩).run Try.prog w = (load ⟨R, 0, none⟩).run Try.prog w := by kernel_rfl
  rw [e]
  go_simp
theorem m_len (R : Nat) (w : World) (v : Value) (h : w.cell? ⟨R, 0, none⟩ = some v) : (method 258 64 (.pointer (some ⟨R, 0, none⟩)) "Len").run Try.prog w = .ok (18, v) w := by
  have e : (method 258 64 (.pointer (some ⟨R, 0, none⟩)) "Len").run Try.prog w = (do let x ← loadVar 62 ⟨R, 0, none⟩; pure (18, x) : Sem (FuncId × Value)).run Try.prog w := by kernel_rfl
  rw [e]
  have := ld62 R w v h
  go_simp
theorem m_less (R : Nat) (w : World) (v : Value) (h : w.cell? ⟨R, 0, none⟩ = some v) : (method 258 64 (.pointer (some ⟨R, 0, none⟩)) "Less").run Try.prog w = .ok (112, v) w := by
  have e : (method 258 64 (.pointer (some ⟨R, 0, none⟩)) "Less").run Try.prog w = (do let x ← loadVar 62 ⟨R, 0, none⟩; pure (112, x) : Sem (FuncId × Value)).run Try.prog w := by kernel_rfl
  rw [e]
  have := ld62 R w v h
  go_simp
theorem m_swap (R : Nat) (w : World) (v : Value) (h : w.cell? ⟨R, 0, none⟩ = some v) : (method 258 64 (.pointer (some ⟨R, 0, none⟩)) "Swap").run Try.prog w = .ok (113, v) w := by
  have e : (method 258 64 (.pointer (some ⟨R, 0, none⟩)) "Swap").run Try.prog w = (do let x ← loadVar 62 ⟨R, 0, none⟩; pure (113, x) : Sem (FuncId × Value)).run Try.prog w := by kernel_rfl
  rw [e]
  have := ld62 R w v h
  go_simp
theorem m_pop (R : Nat) (w : World) : (method 258 64 (.pointer (some ⟨R, 0, none⟩)) "Pop").run Try.prog w = .ok (114, .pointer (some ⟨R, 0, none⟩)) w := by kernel_rfl
theorem m_push (R : Nat) (w : World) : (method 258 64 (.pointer (some ⟨R, 0, none⟩)) "Push").run Try.prog w = .ok (115, .pointer (some ⟨R, 0, none⟩)) w := by kernel_rfl
theorem HeapAt.calm {w w' : World} {R n : Nat} {v : Value} {q : Nat → Nat} (h : HeapAt w R v n q) (k : Calm w w') : HeapAt w' R v n q := ⟨h.box.only (k.only (fun _ => False)) id, h.own.only (k.only (fun _ => False)) (fun _ _ => id)⟩
theorem HeapAt.swap {w w' : World} {R n g c i j : Nat} {q : Nat → Nat} (h : HeapAt w R (.slice (some ⟨g, 0, none⟩) n c) n q) (hs : Swapped w w' g i j (.int .i64 (q i : Nat)) (.int .i64 (q j : Nat))) (hi : i < n) (hj : j < n) : HeapAt w' R (.slice (some ⟨g, 0, none⟩) n c) n (swp q i j) := by
  have hg := h.own.lt g rfl
  exact ⟨h.box.only hs.only (by omega), hs.own hi hj h.own⟩
set_option maxRecDepth 100000 in
set_option maxHeartbeats 4000000 in
theorem down_any (w : World) (R g m c i0 n : Nat) (q : Nat → Nat) (hh : HeapAt w R (.slice (some ⟨g, 0, none⟩) m c) m q) (hnm : n ≤ m) (hi0 : i0 ≤ n) (hn : n ≤ 100000) (hp : HP n q (i0 + 1)) (x y : Int) (hx : x = (i0 : Nat)) (hy : y = (n : Nat)) :
    Calls Try.prog 24 #[.iface 64 (.pointer (some ⟨R, 0, none⟩)), .int .i64 x, .int .i64 y] w fun e w' => IsB e ∧ ∃ q', HeapAt w' R (.slice (some ⟨g, 0, none⟩) m c) m q' ∧ Mix n q q' ∧ HP n q' i0 ∧ Only (fun k => k = g) w w' ∧ w'.heap.size = w.heap.size := by
  have HH : Hid (HeapAt w R (.slice (some ⟨g, 0, none⟩) m c) m q) := hh
  subst hx hy
  have HPP : Hid (HP n q (i0 + 1)) := hp
  clear hh hp
  go_enter Try.func24, Try.ntmps24
  go_wp2
  go_loopg [7] (n + 1 - i0) (fun z i wr => ∃ (k : Nat) (q' : Nat → Nat), z = n + 1 - k ∧ i0 ≤ k ∧ k ≤ n ∧ i = .int .i64 k ∧ Hid (HeapAt wr R (.slice (some ⟨g, 0, none⟩) m c) m q') ∧ Hid (Mix n q q') ∧ Hid (Down n q' i0 k) ∧ Hid (Only (fun k => k = g) w wr) ∧ Hid (wr.heap.size = w.heap.size))
  case atStart => exact ⟨i0, q, rfl, by omega, hi0, rfl, HH, Mix.refl _ _, Down.start HPP.out, Only.refl _ _, rfl⟩
  case round =>
    obtain ⟨k, q', rfl, hik, hkn, rfl, hH, hM, hD, hO, hS⟩ := hrel
    have cR := hH.out.box.cell (i := 0) (by omega)
    have ml := m_less R wr _ cR
    by_cases h1 : n ≤ 2 * k + 1
    · go_wp2_with fail
      go_ret
      exact ⟨IsB.mk _, q', hH.out, hM.out, hD.out.done (fun c hc h2 => by unfold Chd at hc; omega), hO.out, hS.out⟩
    · by_cases h2 : 2 * k + 2 < n
      · by_cases h3 : q' (2 * k + 2) < q' (2 * k + 1)
        · have d3 : decide (q' (2 * k + 2) < q' (2 * k + 1)) = true := by simpa using h3
          have HMIN : Hid (∀ c, Chd k c → c < n → q' (2 * k + 2) ≤ q' c) := fun c hc _ => by
            unfold Chd at hc
            rcases hc with rfl | rfl <;> omega
          clear h3
          go_upto_if 33 with (
            go_at_call 112
            refine (less_any wr g m c (2 * k + 2) (2 * k + 1) q' (by omega) (by omega) hH.out.own.row _ _ (by omega) (by omega)).mono ?_
            rintro e w2 ⟨rfl, hw2⟩
            have HH2 := hH.out.calm hw2
            have cR2 := HH2.box.cell (i := 0) (by omega)
            have ml2 := m_less R _ _ cR2
            have HH2 : Hid (HeapAt w2 R (.slice (some ⟨g, 0, none⟩) m c) m q') := HH2
            have hO2 : Hid (Only (fun k => k = g) w w2) := hO.out.trans (hw2.only _)
            have hS2 : Hid (w2.heap.size = w.heap.size) := hw2.size.trans hS.out
            clear hw2)
          have hjc : Chd k (2 * k + 2) := by unfold Chd; omega
          by_cases h4 : q' (2 * k + 2) < q' k
          · have H4 : Hid (q' (2 * k + 2) < q' k) := h4
            have d4 : decide (q' (2 * k + 2) < q' k) = true := by simpa using h4
            clear h4
            go_wp2_with (first
              | (
                go_at_call 112
                refine (less_any w2 g m c (2 * k + 2) k q' (by omega) (by omega) HH2.out.own.row _ _ (by omega) (by omega)).mono ?_
                rintro e w3 ⟨rfl, hw3⟩
                have HH3 := HH2.out.calm hw3
                have cR3 := HH3.box.cell (i := 0) (by omega)
                have ms3 := m_swap R _ _ cR3
                have HH3 : Hid (HeapAt w3 R (.slice (some ⟨g, 0, none⟩) m c) m q') := HH3
                have HW3 : Hid (Calm w2 w3) := hw3
                clear hw3)
              | (
                go_at_call 113
                refine (swap_any w3 g m c k (2 * k + 2) q' (by omega) (by omega) HH3.out.own.row _ _ (by omega) (by omega)).mono ?_
                rintro e w4 ⟨rfl, hsw⟩
                have HSW : Hid (Swapped w3 w4 g k (2 * k + 2) (.int .i64 (q' k : Nat)) (.int .i64 (q' (2 * k + 2) : Nat))) := hsw
                clear hsw))
            go_roundg (n + 1 - (2 * k + 2))
            case measure => omega
            case rel => exact ⟨2 * k + 2, swp q' k (2 * k + 2), rfl, by omega, by omega, by go_num, HH3.out.swap HSW.out (by omega) (by omega), hM.out.trans (Mix.swap q' (by omega) (by omega)), hD.out.step hjc (by omega) H4.out (fun c hc hcn => HMIN.out c hc hcn), (hO2.out.trans (HW3.out.only _)).trans' HSW.out.only (fun _ _ h => h), (HSW.out.size.trans HW3.out.size).trans hS2.out⟩
          · have H4 : Hid (¬ q' (2 * k + 2) < q' k) := h4
            have d4 : decide (q' (2 * k + 2) < q' k) = false := by simpa using h4
            clear h4
            go_wp2_with (
              go_at_call 112
              refine (less_any w2 g m c (2 * k + 2) k q' (by omega) (by omega) HH2.out.own.row _ _ (by omega) (by omega)).mono ?_
              rintro e w3 ⟨rfl, hw3⟩
              have HW3 : Hid (Calm w2 w3) := hw3
              clear hw3)
            go_ret
            exact ⟨IsB.mk _, q', HH2.out.calm HW3.out, hM.out, hD.out.done (fun c hc hcn => by have := HMIN.out c hc hcn; have := H4.out; omega), hO2.out.trans (HW3.out.only _), HW3.out.size.trans hS2.out⟩
        · have d3 : decide (q' (2 * k + 2) < q' (2 * k + 1)) = false := by simpa using h3
          have HMIN : Hid (∀ c, Chd k c → c < n → q' (2 * k + 1) ≤ q' c) := fun c hc _ => by
            unfold Chd at hc
            rcases hc with rfl | rfl <;> omega
          clear h3
          go_upto_if 33 with (
            go_at_call 112
            refine (less_any wr g m c (2 * k + 2) (2 * k + 1) q' (by omega) (by omega) hH.out.own.row _ _ (by omega) (by omega)).mono ?_
            rintro e w2 ⟨rfl, hw2⟩
            have HH2 := hH.out.calm hw2
            have cR2 := HH2.box.cell (i := 0) (by omega)
            have ml2 := m_less R _ _ cR2
            have HH2 : Hid (HeapAt w2 R (.slice (some ⟨g, 0, none⟩) m c) m q') := HH2
            have hO2 : Hid (Only (fun k => k = g) w w2) := hO.out.trans (hw2.only _)
            have hS2 : Hid (w2.heap.size = w.heap.size) := hw2.size.trans hS.out
            clear hw2)
          have hjc : Chd k (2 * k + 1) := by unfold Chd; omega
          by_cases h4 : q' (2 * k + 1) < q' k
          · have H4 : Hid (q' (2 * k + 1) < q' k) := h4
            have d4 : decide (q' (2 * k + 1) < q' k) = true := by simpa using h4
            clear h4
            go_wp2_with (first
              | (
                go_at_call 112
                refine (less_any w2 g m c (2 * k + 1) k q' (by omega) (by omega) HH2.out.own.row _ _ (by omega) (by omega)).mono ?_
                rintro e w3 ⟨rfl, hw3⟩
                have HH3 := HH2.out.calm hw3
                have cR3 := HH3.box.cell (i := 0) (by omega)
                have ms3 := m_swap R _ _ cR3
                have HH3 : Hid (HeapAt w3 R (.slice (some ⟨g, 0, none⟩) m c) m q') := HH3
                have HW3 : Hid (Calm w2 w3) := hw3
                clear hw3)
              | (
                go_at_call 113
                refine (swap_any w3 g m c k (2 * k + 1) q' (by omega) (by omega) HH3.out.own.row _ _ (by omega) (by omega)).mono ?_
                rintro e w4 ⟨rfl, hsw⟩
                have HSW : Hid (Swapped w3 w4 g k (2 * k + 1) (.int .i64 (q' k : Nat)) (.int .i64 (q' (2 * k + 1) : Nat))) := hsw
                clear hsw))
            go_roundg (n + 1 - (2 * k + 1))
            case measure => omega
            case rel => exact ⟨2 * k + 1, swp q' k (2 * k + 1), rfl, by omega, by omega, by go_num, HH3.out.swap HSW.out (by omega) (by omega), hM.out.trans (Mix.swap q' (by omega) (by omega)), hD.out.step hjc (by omega) H4.out (fun c hc hcn => HMIN.out c hc hcn), (hO2.out.trans (HW3.out.only _)).trans' HSW.out.only (fun _ _ h => h), (HSW.out.size.trans HW3.out.size).trans hS2.out⟩
          · have H4 : Hid (¬ q' (2 * k + 1) < q' k) := h4
            have d4 : decide (q' (2 * k + 1) < q' k) = false := by simpa using h4
            clear h4
            go_wp2_with (
              go_at_call 112
              refine (less_any w2 g m c (2 * k + 1) k q' (by omega) (by omega) HH2.out.own.row _ _ (by omega) (by omega)).mono ?_
              rintro e w3 ⟨rfl, hw3⟩
              have HW3 : Hid (Calm w2 w3) := hw3
              clear hw3)
            go_ret
            exact ⟨IsB.mk _, q', HH2.out.calm HW3.out, hM.out, hD.out.done (fun c hc hcn => by have := HMIN.out c hc hcn; have := H4.out; omega), hO2.out.trans (HW3.out.only _), HW3.out.size.trans hS2.out⟩
      · have HMIN : Hid (∀ c, Chd k c → c < n → q' (2 * k + 1) ≤ q' c) := fun c hc hcn => by
          unfold Chd at hc
          rcases hc with rfl | rfl <;> omega
        have HH2 := hH
        have hO2 := hO
        have hS2 := hS
        have hjc : Chd k (2 * k + 1) := by unfold Chd; omega
        by_cases h4 : q' (2 * k + 1) < q' k
        · have H4 : Hid (q' (2 * k + 1) < q' k) := h4
          have d4 : decide (q' (2 * k + 1) < q' k) = true := by simpa using h4
          clear h4
          go_wp2_with (first
            | (
              go_at_call 112
              refine (less_any wr g m c (2 * k + 1) k q' (by omega) (by omega) HH2.out.own.row _ _ (by omega) (by omega)).mono ?_
              rintro e w3 ⟨rfl, hw3⟩
              have HH3 := HH2.out.calm hw3
              have cR3 := HH3.box.cell (i := 0) (by omega)
              have ms3 := m_swap R _ _ cR3
              have HH3 : Hid (HeapAt w3 R (.slice (some ⟨g, 0, none⟩) m c) m q') := HH3
              have HW3 : Hid (Calm wr w3) := hw3
              clear hw3)
            | (
              go_at_call 113
              refine (swap_any w3 g m c k (2 * k + 1) q' (by omega) (by omega) HH3.out.own.row _ _ (by omega) (by omega)).mono ?_
              rintro e w4 ⟨rfl, hsw⟩
              have HSW : Hid (Swapped w3 w4 g k (2 * k + 1) (.int .i64 (q' k : Nat)) (.int .i64 (q' (2 * k + 1) : Nat))) := hsw
              clear hsw))
          go_roundg (n + 1 - (2 * k + 1))
          case measure => omega
          case rel => exact ⟨2 * k + 1, swp q' k (2 * k + 1), rfl, by omega, by omega, by go_num, HH3.out.swap HSW.out (by omega) (by omega), hM.out.trans (Mix.swap q' (by omega) (by omega)), hD.out.step hjc (by omega) H4.out (fun c hc hcn => HMIN.out c hc hcn), (hO2.out.trans (HW3.out.only _)).trans' HSW.out.only (fun _ _ h => h), (HSW.out.size.trans HW3.out.size).trans hS2.out⟩
        · have H4 : Hid (¬ q' (2 * k + 1) < q' k) := h4
          have d4 : decide (q' (2 * k + 1) < q' k) = false := by simpa using h4
          clear h4
          go_wp2_with (
            go_at_call 112
            refine (less_any wr g m c (2 * k + 1) k q' (by omega) (by omega) HH2.out.own.row _ _ (by omega) (by omega)).mono ?_
            rintro e w3 ⟨rfl, hw3⟩
            have HW3 : Hid (Calm wr w3) := hw3
            clear hw3)
          go_ret
          exact ⟨IsB.mk _, q', HH2.out.calm HW3.out, hM.out, hD.out.done (fun c hc hcn => by have := HMIN.out c hc hcn; have := H4.out; omega), hO2.out.trans (HW3.out.only _), HW3.out.size.trans hS2.out⟩
end Go.Proofs.Qxb6616383a
