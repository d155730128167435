/-
  The queue's Pop and Push, container/heap's up.
-/
import Derived.Test.Qxb6616383aDown
import Derived.Test.Qxb6616383aAppend
namespace Go.Proofs.Qxb6616383a
open Go.RowKit
open Plain
theorem Try.info62 : (Try.prog.info? 62).map (fun i => (i.zero, i.size, i.bytes)) = some (some (.slice none 0 0), 1, 24) := by kernel_rfl
/-- The box has been given another slice. -/
structure Boxed (w w' : World) (R : Nat) (v : Value) : Prop where
  only : Only (fun k => k = R) w w'
  size : w'.heap.size = w.heap.size
  box : ∀ u, Arr w R 62 1 (fun _ => u) → Arr w' R 62 1 (fun _ => v)
theorem Boxed.of (w : World) (R : Nat) (v : Value) {w' : World} (ho : w'.os = w.os) (ht : w'.tape = w.tape) (hp : w'.output = w.output) (hh : w'.heap = (w.setCell ⟨R, 0, none⟩ v).heap) : Boxed w w' R v := by
  have hsz : w'.heap.size = w.heap.size := by rw [hh, size_setCell]
  refine ⟨⟨ho, ht, hp, by omega, fun k _ hk => ?_⟩, hsz, fun u hu => ?_⟩
  · rw [hh, Below.heap_setCell _ _ _ _ hk]
  · have := hu.set 0 v
    unfold Arr at *
    rw [hh, this]
    rfl
theorem Own.shorter {w : World} {B t n g c : Nat} {f : Nat → Value} (h : Own w B t (.slice (some ⟨g, 0, none⟩) (n + 1) c) (n + 1) f) : Own w B t (.slice (some ⟨g, 0, none⟩) n c) n f := by
  rcases h.2 with hn | ⟨g', cap, cur, hv, hB, hgg, hnc, hm, hs, ht⟩
  · cases hn.1
  · simp only [Value.slice.injEq, Option.some.injEq, Addr.mk.injEq] at hv
    obtain ⟨⟨rfl, _⟩, _, rfl⟩ := hv
    refine ⟨by simp, .inr ⟨g, c, cur, rfl, hB, hgg, by omega, hm, hs, ?_⟩⟩
    have : (cur.toList.take ((n + 1) * 1)).take n = ((List.range (n + 1)).map f).take n := by rw [ht]
    rw [List.take_take] at this
    simp only [Nat.mul_one] at this ⊢
    rw [show min n (n + 1) = n by omega] at this
    rw [this, ← List.map_take, List.take_range, show min n (n + 1) = n by omega]
theorem Own.some_ {w : World} {B t n : Nat} {v : Value} {f : Nat → Value} (h : Own w B t v (n + 1) f) : ∃ g c, v = .slice (some ⟨g, 0, none⟩) (n + 1) c := by
  rcases h.cases with ⟨_, h0⟩ | ⟨g, c, h1, _⟩
  · omega
  · exact ⟨g, c, h1⟩
set_option maxRecDepth 100000 in
set_option maxHeartbeats 4000000 in
theorem qpop_any (w : World) (R g n c : Nat) (q : Nat → Nat) (hh : HeapAt w R (.slice (some ⟨g, 0, none⟩) (n + 1) c) (n + 1) q) (hnc : n ≤ 100000) :
    Calls Try.prog 114 #[.pointer (some ⟨R, 0, none⟩)] w fun e w' => e = .returned (.iface 3 (.int .i64 (q n : Nat))) ∧ Boxed w w' R (.slice (some ⟨g, 0, none⟩) n c) := by
  have cR := hh.box.cell (i := 0) (by omega)
  have fR := hh.box.free 0
  have cq := hh.own.row.cell (i := n) (by omega)
  rw [show nv q n = .int .i64 (q n : Nat) from rfl] at cq
  have hcap : n + 1 ≤ c := by
    rcases hh.own.2 with hn | ⟨g', cap, cur, hv, hB, hgg, hnc, hm, hs, ht⟩
    · cases hn.1
    · simp only [Value.slice.injEq, Option.some.injEq, Addr.mk.injEq] at hv
      omega
  clear hh
  go_enter Try.func114, Try.ntmps114
  go_wp2_with (go_quiet (fail))
  go_region
  all_goals (go_wp2; go_ret)
  all_goals exact ⟨rfl, Boxed.of _ _ _ rfl rfl rfl rfl⟩
theorem ta3 (x : Int) (w : World) : (Instr.typeAssert (.iface 3 (.int .i64 x)) 20 3 false).run Try.prog w = .ok (.int .i64 x) w := by kernel_rfl
set_option maxRecDepth 100000 in
set_option maxHeartbeats 4000000 in
theorem qpush_any (w : World) (R n x : Nat) (v : Value) (q : Nat → Nat) (hh : HeapAt w R v n q) (hn : n ≤ 100000) :
    Calls Try.prog 115 #[.pointer (some ⟨R, 0, none⟩), .iface 3 (.int .i64 (x : Nat))] w fun e w' => e = .returned (.tuple #[]) ∧ ∃ v', HeapAt w' R v' (n + 1) (upd q n x) ∧ Moved w v v' ∧ Only (fun k => k = R ∨ v.ownBlock = some k) w w' := by
  have cR := hh.box.cell (i := 0) (by omega)
  have fR := hh.box.free 0
  have cRa := (hh.box.alloc (.cells #[.int .i64 (x : Nat)] 3)).cell (i := 0) (by omega)
  have HH : Hid (HeapAt w R v n q) := hh
  clear hh
  have hta := fun w => ta3 (x : Nat) w
  go_enter Try.func115, Try.ntmps115
  go_wp2_with fail
  go_region_law (
    refine step_app rfl (.tmp 7) (.tmp 10) 62 rfl (R + 1) 3 (.int .i64 0) 8 Try.underlying62 Try.info3 rfl v n (nv q) rfl (Own.alloc (show Own w.drew (R + 1) 3 v n (nv q) from HH.out.own) _) _ 1 (.int .i64 (x : Nat)) rfl (cell_new _ _ _) rfl (by unfold maxLen; omega) (by omega) (by simp; have := HH.out.box.lt; omega) ?_
    intro v' w2 hO2 hG2 hM2
    obtain ⟨g', c', rfl⟩ := hO2.out.some_
    have HA2 : Hid (Arr w2 R 62 1 (fun _ => v)) := (Arr.alloc (show Arr w.drew R 62 1 (fun _ => v) from HH.out.box) _).grown hG2.out (fun h => by have := HH.out.own.lt R h.symm; omega)
    have cR2 := HA2.out.cell (i := 0) (by omega)
    have fR2 := HA2.out.free 0)
  all_goals go_end0
  all_goals (
    refine ⟨rfl, .slice (some ⟨g', 0, none⟩) (n + 1) c', ⟨?_, ?_⟩, ?_, ?_⟩
    · exact HA2.out.set 0 _
    · have := hO2.out
      rw [upd_nv] at this
      exact this.setCell (by simp [Value.ownBlock]; have := (hO2.out.lt g' rfl).1; omega) _
    · rcases hM2.out with h | h
      · exact Or.inl h
      · exact Or.inr (fun k hk => by have := h k hk; simp at this; omega)
    · have o1 : Only (fun k => k = R ∨ v.ownBlock = some k) w (w.drew.alloc (.cells #[.int .i64 (x : Nat)] 3)) := ((Calm.drewN w 1).only _).trans (Only.alloc w.drew _ _)
      have o2 := o1.trans' (Only.grown hG2.out) (fun i _ h => Or.inr h.symm)
      exact o2.trans' (Only.setCell _ _ _) (fun i _ h => Or.inl h))

theorem Only.weak {S : Nat → Prop} {T : Nat → Prop} {a b : World} (h : Only S a b) (hT : ∀ i, S i → T i) : Only T a b := h.mono (fun i _ => hT i)
set_option maxRecDepth 100000 in
set_option maxHeartbeats 4000000 in
theorem up_any (w : World) (R g n c j0 : Nat) (q : Nat → Nat) (hh : HeapAt w R (.slice (some ⟨g, 0, none⟩) n c) n q) (hj0 : j0 < n) (hn : n ≤ 100000) (hu : Up n q j0) (x : Int) (hx : x = (j0 : Nat)) :
    Calls Try.prog 25 #[.iface 64 (.pointer (some ⟨R, 0, none⟩)), .int .i64 x] w fun e w' => e = .returned (.tuple #[]) ∧ ∃ q', HeapAt w' R (.slice (some ⟨g, 0, none⟩) n c) n q' ∧ Mix n q q' ∧ HP n q' 0 ∧ Only (fun k => k = g) w w' ∧ w'.heap.size = w.heap.size := by
  subst hx
  have HH : Hid (HeapAt w R (.slice (some ⟨g, 0, none⟩) n c) n q) := hh
  have HU : Hid (Up n q j0) := hu
  clear hh hu
  go_enter Try.func25, Try.ntmps25
  go_wp2
  go_loopg [1] j0 (fun z j wr => ∃ (k : Nat) (q' : Nat → Nat), z = k ∧ k < n ∧ j = .int .i64 k ∧ Hid (HeapAt wr R (.slice (some ⟨g, 0, none⟩) n c) n q') ∧ Hid (Mix n q q') ∧ Hid (Up n q' k) ∧ Hid (Only (fun k => k = g) w wr) ∧ Hid (wr.heap.size = w.heap.size))
  case atStart => exact ⟨j0, q, rfl, hj0, rfl, HH, Mix.refl _ _, HU, Only.refl _ _, rfl⟩
  case round =>
    obtain ⟨k, q', rfl, hkn, rfl, hH, hM, hU, hO, hS⟩ := hrel
    have cR := hH.out.box.cell (i := 0) (by omega)
    have ml := m_less R wr _ cR
    by_cases h0 : gk = 0
    · subst h0
      go_wp2_with fail
      go_end0
      exact ⟨rfl, q', hH.out, hM.out, hU.out.done (Or.inl rfl), hO.out, hS.out⟩
    · obtain ⟨p, hp⟩ : ∃ p, p = (gk - 1) / 2 := ⟨_, rfl⟩
      have e1 : ((gk : Int) - 1).tdiv 2 = (p : Nat) := by rw [Int.tdiv_eq_ediv_of_nonneg (by omega)]; omega
      have hpk : p < gk := by omega
      have e2 : (((p : Nat) : Int) == ((gk : Nat) : Int)) = false := by rw [beq_eq_false_iff_ne]; omega
      have hpc : Chd p gk := by unfold Chd; omega
      clear hp
      by_cases h4 : q' gk < q' p
      · have H4 : Hid (q' gk < q' p) := h4
        have d4 : decide (q' gk < q' p) = true := by simpa using h4
        clear h4
        go_wp2_with (first
          | (
            go_at_call 112
            refine (less_any wr g n c gk p q' (by omega) (by omega) hH.out.own.row _ _ (by omega) (by omega)).mono ?_
            rintro e w3 ⟨rfl, hw3⟩
            have HH3 := hH.out.calm hw3
            have cR3 := HH3.box.cell (i := 0) (by omega)
            have ms3 := m_swap R _ _ cR3
            have HH3 : Hid (HeapAt w3 R (.slice (some ⟨g, 0, none⟩) n c) n q') := HH3
            have HW3 : Hid (Calm wr w3) := hw3
            clear hw3)
          | (
            go_at_call 113
            refine (swap_any w3 g n c p gk q' (by omega) (by omega) HH3.out.own.row _ _ (by omega) (by omega)).mono ?_
            rintro e w4 ⟨rfl, hsw⟩
            have HSW : Hid (Swapped w3 w4 g p gk (.int .i64 (q' p : Nat)) (.int .i64 (q' gk : Nat))) := hsw
            clear hsw))
        go_roundg p
        case measure => omega
        case rel => exact ⟨p, swp q' p gk, rfl, by omega, by first | rfl | go_num, HH3.out.swap HSW.out (by omega) (by omega), hM.out.trans (Mix.swap q' (by omega) (by omega)), hU.out.step (by omega) hpc H4.out, (hO.out.trans (HW3.out.only _)).trans' HSW.out.only (fun _ _ h => h), (HSW.out.size.trans HW3.out.size).trans hS.out⟩
      · have H4 : Hid (¬ q' gk < q' p) := h4
        have d4 : decide (q' gk < q' p) = false := by simpa using h4
        clear h4
        go_wp2_with (
          go_at_call 112
          refine (less_any wr g n c gk p q' (by omega) (by omega) hH.out.own.row _ _ (by omega) (by omega)).mono ?_
          rintro e w3 ⟨rfl, hw3⟩
          have HW3 : Hid (Calm wr w3) := hw3
          clear hw3)
        go_end0
        exact ⟨rfl, q', hH.out.calm HW3.out, hM.out, hU.out.done (Or.inr ⟨p, hpc, by have := H4.out; omega⟩), hO.out.trans (HW3.out.only _), HW3.out.size.trans hS.out⟩
end Go.Proofs.Qxb6616383a
