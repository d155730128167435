/-
  container/heap's Init, Pop and Push over the queue of groups.
-/
import Derived.Test.Qxb6616383aUp
namespace Go.Proofs.Qxb6616383a
open Go.RowKit
open Plain
set_option maxRecDepth 100000 in
set_option maxHeartbeats 4000000 in
theorem len_any (w : World) (ao : Option Addr) (n c : Nat) : Calls Try.prog 18 #[.slice ao n c] w fun e w' => e = .returned (.int .i64 (n : Nat)) ∧ w' = w := by
  go_enter Try.func18, Try.ntmps18
  go_wp2
  go_ret
  exact ⟨rfl, rfl⟩
set_option maxRecDepth 100000 in
set_option maxHeartbeats 4000000 in
theorem init_some (w : World) (R g n c : Nat) (q : Nat → Nat) (hh : HeapAt w R (.slice (some ⟨g, 0, none⟩) n c) n q) (hn : n ≤ 100000) :
    Calls Try.prog 17 #[.iface 64 (.pointer (some ⟨R, 0, none⟩))] w fun e w' => e = .returned (.tuple #[]) ∧ ∃ q', HeapAt w' R (.slice (some ⟨g, 0, none⟩) n c) n q' ∧ Mix n q q' ∧ HP n q' 0 ∧ Only (fun k => k = g) w w' ∧ w'.heap.size = w.heap.size := by
  have cR := hh.box.cell (i := 0) (by omega)
  have mL := m_len R w _ cR
  have HH : Hid (HeapAt w R (.slice (some ⟨g, 0, none⟩) n c) n q) := hh
  clear hh
  go_enter Try.func17, Try.ntmps17
  have e1 : ((n : Int)).tdiv 2 = ((n / 2 : Nat) : Int) := by rw [Int.tdiv_eq_ediv_of_nonneg (by omega)]; omega
  go_wp2_with (
    go_at_call 18
    refine (len_any w _ n c).mono ?_
    rintro e w' ⟨rfl, hw⟩
    obtain rfl := hw.symm)
  go_loopg [3] (n / 2) (fun z i wr => ∃ (k : Nat) (q' : Nat → Nat), z = k ∧ k ≤ n / 2 ∧ i = .int .i64 ((k : Int) - 1) ∧ Hid (HeapAt wr R (.slice (some ⟨g, 0, none⟩) n c) n q') ∧ Hid (Mix n q q') ∧ Hid (HP n q' k) ∧ Hid (Only (fun k => k = g) w wr) ∧ Hid (wr.heap.size = w.heap.size))
  case atStart => exact ⟨n / 2, q, rfl, by omega, by first | rfl | go_num, HH, Mix.refl _ _, HP.leaves q, Only.refl _ _, rfl⟩
  case round =>
    obtain ⟨k, q', rfl, hkn, rfl, hH, hM, hP, hO, hS⟩ := hrel
    by_cases h0 : gk = 0
    · subst h0
      go_wp2_with fail
      go_end0
      exact ⟨rfl, q', hH.out, hM.out, hP.out, hO.out, hS.out⟩
    · have hp1 : Hid (HP n q' (gk - 1 + 1)) := by
        have := hP.out
        rw [show gk - 1 + 1 = gk by omega]; exact this
      go_wp2_with (
        go_at_call 24
        refine (down_any wr R g n c (gk - 1) n q' hH.out (Nat.le_refl _) (by omega) hn hp1.out _ _ (by omega) rfl).mono ?_
        rintro e w3 ⟨⟨b, rfl⟩, q2, a1, a2, a3, a4, a5⟩
        have A1 : Hid (HeapAt w3 R (.slice (some ⟨g, 0, none⟩) n c) n q2) := a1
        have A2 : Hid (Mix n q q2) := hM.out.trans a2
        have A3 : Hid (HP n q2 (gk - 1)) := a3
        have A4 : Hid (Only (fun k => k = g) w w3) := hO.out.trans a4
        have A5 : Hid (w3.heap.size = w.heap.size) := a5.trans hS.out
        clear a1 a2 a3 a4 a5)
      go_roundg (gk - 1)
      case measure => omega
      case rel => exact ⟨gk - 1, q2, rfl, by omega, by go_num, A1, A2, A3, A4, A5⟩
theorem init_any (w : World) (R n : Nat) (v : Value) (q : Nat → Nat) (hh : HeapAt w R v n q) (hn : n ≤ 100000) :
    Calls Try.prog 17 #[.iface 64 (.pointer (some ⟨R, 0, none⟩))] w fun e w' => e = .returned (.tuple #[]) ∧ ∃ q', HeapAt w' R v n q' ∧ Mix n q q' ∧ HP n q' 0 ∧ Only (fun k => v.ownBlock = some k) w w' ∧ w'.heap.size = w.heap.size := by
  rcases hh.own.cases with ⟨rfl, rfl⟩ | ⟨g, c, rfl, _, _⟩
  · have cR := hh.box.cell (i := 0) (by omega)
    have mL := m_len R w _ cR
    have HH : Hid (HeapAt w R (.slice none 0 0) 0 q) := hh
    clear hh
    go_enter Try.func17, Try.ntmps17
    go_wp2_with (
      go_at_call 18
      refine (len_any w _ 0 0).mono ?_
      rintro e w' ⟨rfl, hw⟩
      obtain rfl := hw.symm)
    refine wp_loop_rounds 1 ?_
    rw [rounds_succ]
    go_wp2_with fail
    go_end0
    exact ⟨rfl, q, HH.out, Mix.refl _ _, fun p c _ _ h => by omega, Only.refl _ _, rfl⟩
  · refine (init_some w R g n c q hh hn).mono ?_
    rintro e w' ⟨h1, q', h2, h3, h4, h5, h6⟩
    exact ⟨h1, q', h2, h3, h4, h5.weak (fun i h => by rw [h]; rfl), h6⟩
set_option maxRecDepth 100000 in
set_option maxHeartbeats 4000000 in
theorem hpop_any (w : World) (R g n c : Nat) (q : Nat → Nat) (hh : HeapAt w R (.slice (some ⟨g, 0, none⟩) (n + 1) c) (n + 1) q) (hn : n ≤ 100000) (hp : HP (n + 1) q 0) :
    Calls Try.prog 19 #[.iface 64 (.pointer (some ⟨R, 0, none⟩))] w fun e w' => e = .returned (.iface 3 (.int .i64 (q 0 : Nat))) ∧ ∃ q', HeapAt w' R (.slice (some ⟨g, 0, none⟩) n c) n q' ∧ Mix n (swp q 0 n) q' ∧ HP n q' 0 ∧ Only (fun k => k = R ∨ k = g) w w' ∧ w'.heap.size = w.heap.size := by
  have cR := hh.box.cell (i := 0) (by omega)
  have mL := m_len R w _ cR
  have mS := m_swap R w _ cR
  have mP := fun w => m_pop R w
  have HH : Hid (HeapAt w R (.slice (some ⟨g, 0, none⟩) (n + 1) c) (n + 1) q) := hh
  have HPP : Hid (HP n (swp q 0 n) 1) := hp.pop
  clear hh hp
  go_enter Try.func19, Try.ntmps19
  go_wp2_with (first
    | (
      go_at_call 18
      refine (len_any w _ (n + 1) c).mono ?_
      rintro e w' ⟨rfl, hw⟩
      obtain rfl := hw.symm)
    | (
      go_at_call 113
      refine (swap_any w g (n + 1) c 0 n q (by omega) (by omega) HH.out.own.row _ _ (by omega) (by omega)).mono ?_
      rintro e w2 ⟨rfl, hsw⟩
      have HSW : Hid (Swapped w w2 g 0 n (.int .i64 (q 0 : Nat)) (.int .i64 (q n : Nat))) := hsw
      have HH2 : Hid (HeapAt w2 R (.slice (some ⟨g, 0, none⟩) (n + 1) c) (n + 1) (swp q 0 n)) := HH.out.swap hsw (by omega) (by omega)
      clear hsw)
    | (
      go_at_call 24
      refine (down_any w2 R g (n + 1) c 0 n _ HH2.out (by omega) (by omega) hn HPP.out _ _ (by omega) (by omega)).mono ?_
      rintro e w3 ⟨⟨b, rfl⟩, q2, a1, a2, a3, a4, a5⟩
      have A1 : Hid (HeapAt w3 R (.slice (some ⟨g, 0, none⟩) (n + 1) c) (n + 1) q2) := a1
      have A2 : Hid (Mix n (swp q 0 n) q2) := a2
      have A3 : Hid (HP n q2 0) := a3
      have A4 : Hid (Only (fun k => k = g) w w3) := HSW.out.only.trans a4
      have A5 : Hid (w3.heap.size = w.heap.size) := a5.trans HSW.out.size
      clear a1 a2 a3 a4 a5)
    | (
      go_at_call 114
      refine (qpop_any w3 R g n c q2 A1.out hn).mono ?_
      rintro e w4 ⟨rfl, hbx⟩
      have HBX : Hid (Boxed w3 w4 R (.slice (some ⟨g, 0, none⟩) n c)) := hbx
      clear hbx))
  go_ret
  refine ⟨?_, q2, ⟨HBX.out.box _ A1.out.box, ?_⟩, A2.out, A3.out, ?_, HBX.out.size.trans A5.out⟩
  · have : q2 n = q 0 := by rw [A2.out.out n (Nat.le_refl _), swp_at, if_pos rfl]
    rw [← this]; rfl
  · exact A1.out.own.shorter.only HBX.out.only (fun k hk => by have := (A1.out.own.lt k hk).1; omega)
  · exact (A4.out.weak (fun i h => Or.inr h)).trans (HBX.out.only.weak (fun i h => Or.inl h))
set_option maxRecDepth 100000 in
set_option maxHeartbeats 4000000 in
theorem hpush_any (w : World) (R n x : Nat) (v : Value) (q : Nat → Nat) (hh : HeapAt w R v n q) (hn : n < 100000) (hp : HP n q 0) :
    Calls Try.prog 21 #[.iface 64 (.pointer (some ⟨R, 0, none⟩)), .iface 3 (.int .i64 (x : Nat))] w fun e w' => e = .returned (.tuple #[]) ∧ ∃ v' q', HeapAt w' R v' (n + 1) q' ∧ Mix (n + 1) (upd q n x) q' ∧ HP (n + 1) q' 0 ∧ Only (fun k => k = R ∨ v.ownBlock = some k) w w' ∧ Moved w v v' := by
  have mP := fun w => m_push R w
  have HH : Hid (HeapAt w R v n q) := hh
  have HPP : Hid (HP n q 0) := hp
  clear hh hp
  go_enter Try.func21, Try.ntmps21
  go_wp2_with (first
    | (
      go_at_call 115
      refine (qpush_any w R n x v q HH.out (by omega)).mono ?_
      rintro e w2 ⟨rfl, v', a1, a2, a3⟩
      obtain ⟨g, c, rfl⟩ := a1.own.some_
      have cR := a1.box.cell (i := 0) (by omega)
      have mL := m_len R w2 _ cR
      have A1 : Hid (HeapAt w2 R (.slice (some ⟨g, 0, none⟩) (n + 1) c) (n + 1) (upd q n x)) := a1
      have A2 : Hid (Moved w v (.slice (some ⟨g, 0, none⟩) (n + 1) c)) := a2
      have A3 : Hid (Only (fun k => k = R ∨ v.ownBlock = some k) w w2) := a3
      clear a1 a2 a3)
    | (
      go_at_call 18
      refine (len_any w2 _ (n + 1) c).mono ?_
      rintro e w' ⟨rfl, hw⟩
      obtain rfl := hw.symm)
    | (
      go_at_call 25
      refine (up_any w2 R g (n + 1) c n _ A1.out (by omega) (by omega) (Up.start HPP.out) _ (by omega)).mono ?_
      rintro e w3 ⟨rfl, q2, b1, b2, b3, b4, b5⟩
      have B1 : Hid (HeapAt w3 R (.slice (some ⟨g, 0, none⟩) (n + 1) c) (n + 1) q2) := b1
      have B2 : Hid (Mix (n + 1) (upd q n x) q2) := b2
      have B3 : Hid (HP (n + 1) q2 0) := b3
      have B4 : Hid (Only (fun k => k = g) w2 w3) := b4
      clear b1 b2 b3 b4 b5))
  go_end0
  refine ⟨rfl, _, q2, B1.out, B2.out, B3.out, A3.out.trans' B4.out (fun i hi h => ?_), A2.out⟩
  rcases A2.out with hm | hm
  · exact Or.inr (by rw [← hm, h]; rfl)
  · have := hm g rfl
    omega
end Go.Proofs.Qxb6616383a
