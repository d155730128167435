/-
  The walks: b1SignOfDifference, Serial.Compare, bytes.Compare, the law.
-/
import Derived.Test.Qxb6616877aRows
import Derived.Test.Qxb6616877aPlain
import Derived.WalkKit
import Derived.WalkSpells
import Derived.WalkLawsBesides
import Derived.Deep.QuietTactic
import Derived.BigQuiet
import Derived.ProofKit
import Derived.Lib.BytesEntry
namespace Go.Proofs.Qxb6616877a
open Go.RowKit
open Plain
def cellsOf (xs : List Int) : Array Value := (xs.map fun a => Value.int .u8 a).toArray
theorem cells_size (xs : List Int) : (cellsOf xs).size = xs.length := by simp [cellsOf]
theorem cells_get (xs : List Int) (k : Nat) (h : k < xs.length) : (cellsOf xs)[k]? = some (.int .u8 (xs[k]'h)) := by simp [cellsOf, h]
theorem ret_int {k : IntKind} {a b : Int} (h : a = b) : Ending.returned (.int k a) = .returned (.int k b) := by rw [h]
theorem Grown.drewN {W w' : World} (h : Grown W w') (n : Nat) : Grown W (w'.drewN n) := by
  induction n generalizing w' with
  | zero => exact h
  | succ n ih => exact ih h

/-- Nothing old has turned, block by block. -/
def Kept (w w' : World) : Prop := Grown w w' ∧ ∀ i, i < w.heap.size → w'.heap[i]? = w.heap[i]?
theorem kept_two (w : World) (a b : Array Value) (t n : Nat) : Kept w (((w.alloc (.cells a t)).alloc (.cells b t)).drewN n) := by
  refine ⟨Grown.drewN ((Grown.refl _).alloc _ _ |>.alloc _ _) _, fun i hi => ?_⟩
  show ((w.heap.push (.cells a t)).push (.cells b t))[i]? = w.heap[i]?
  rw [Array.getElem?_push, if_neg (by simp; omega), Array.getElem?_push, if_neg (by omega)]
theorem Grown.trans' {a b c : World} (h : Grown a b) (h' : Grown b c) : Grown a c :=
  ⟨World.keptBut_trans h.1 h'.1, fun x => (h'.2.1 x).trans (h.2.1 x), Nat.le_trans h.2.2 h'.2.2⟩
theorem sgn_lt {xs ys : List Int} (h : (brw (ltL xs ys) == 1) = true) : -1 = sgn xs ys := by
  unfold sgn; cases hc : ltL xs ys <;> simp [hc, brw] at *
theorem sgn_gt {xs ys : List Int} (h : (brw (ltL xs ys) == 1) = false) (h2 : neL xs ys = true) : 1 = sgn xs ys := by
  unfold sgn; cases hc : ltL xs ys <;> simp [hc, h2, brw] at *
theorem sgn_eq {xs ys : List Int} (h : (brw (ltL xs ys) == 1) = false) (h2 : neL xs ys = false) : 0 = sgn xs ys := by
  unfold sgn; cases hc : ltL xs ys <;> simp [hc, h2, brw] at *
theorem drop_cons (xs : List Int) (j : Nat) (h : j < xs.length) : xs.drop j = xs[j] :: xs.drop (j + 1) := List.drop_eq_getElem_cons h

set_option maxHeartbeats 400000 in
theorem sign_any (xs ys : List Int) (w : World) (ha : xs.length = 20) (hb : ys.length = 20) (ba : ∀ a ∈ xs, 0 ≤ a ∧ a ≤ 255) (bb : ∀ b ∈ ys, 0 ≤ b ∧ b ≤ 255) :
    Calls Try.prog 4 #[.agg (cellsOf xs), .agg (cellsOf ys)] w fun e w' => e = .returned (.int .i64 (sgn xs ys)) ∧ Kept w w' := by
  have HA : Hid (xs.length = 20) := ha
  have HB : Hid (ys.length = 20) := hb
  have BA : Hid (∀ a ∈ xs, 0 ≤ a ∧ a ≤ 255) := ba
  have BB : Hid (∀ b ∈ ys, 0 ≤ b ∧ b ≤ 255) := bb
  clear ha hb ba bb
  go_enter Try.func4, Try.ntmps4
  go_wp2
  go_loopw [5, 6, 7, 8] (fun b z i d w' => ∃ k n : Nat, k ≤ 20 ∧ i = .int .i64 ((k : Int) - 1) ∧ b = .int .i64 (brw (ltL (xs.drop k) (ys.drop k))) ∧ z = .bool (neL (xs.drop k) (ys.drop k)) ∧ w' = ((w.alloc (.cells (cellsOf xs) 22)).alloc (.cells (cellsOf ys) 22)).drewN n) (fun _ _ i _ _ => (1 + intOf i).toNat)
  case atStart => exact ⟨20, 0, by omega, rfl, by rw [List.drop_of_length_le (by rw [HA.out]; omega)]; rfl, by rw [List.drop_of_length_le (by rw [HA.out]; omega), List.drop_of_length_le (by rw [HB.out]; omega)]; rfl, rfl⟩
  case round =>
    obtain ⟨k, n, hk, rfl, rfl, rfl, rfl⟩ := hrel
    cases k with
    | zero =>
      go_wp2
      · go_ret
        exact ⟨ret_int (sgn_lt ‹_›), kept_two _ _ _ _ _⟩
      · go_ret
        exact ⟨ret_int (sgn_gt ‹_› (by assumption)), kept_two _ _ _ _ _⟩
      · go_ret
        exact ⟨ret_int (sgn_eq ‹_› (by assumption)), kept_two _ _ _ _ _⟩
    | succ j =>
      have l1 : j < xs.length := by rw [HA.out]; omega
      have l2 : j < ys.length := by rw [HB.out]; omega
      obtain ⟨a, hxa⟩ : ∃ a, xs[j] = a := ⟨_, rfl⟩
      obtain ⟨b, hyb⟩ : ∃ b, ys[j] = b := ⟨_, rfl⟩
      have g1 : (cellsOf xs)[j]? = some (.int .u8 a) := by rw [cells_get xs j l1, hxa]
      have g2 : (cellsOf ys)[j]? = some (.int .u8 b) := by rw [cells_get ys j l2, hyb]
      obtain ⟨a0, a1⟩ : 0 ≤ a ∧ a ≤ 255 := by rw [← hxa]; exact BA.out _ (List.getElem_mem l1)
      obtain ⟨b0, b1⟩ : 0 ≤ b ∧ b ≤ 255 := by rw [← hyb]; exact BB.out _ (List.getElem_mem l2)
      have HL : Hid (ltL (xs.drop j) (ys.drop j) = decide (a - b - brw (ltL (xs.drop (j + 1)) (ys.drop (j + 1))) < 0)) := by
        show _ = _
        rw [drop_cons xs j l1, drop_cons ys j l2, hxa, hyb]; exact ltL_step a b _ _
      have HN : Hid (∀ d, d = (if a - b - brw (ltL (xs.drop (j + 1)) (ys.drop (j + 1))) < 0 then a - b - brw (ltL (xs.drop (j + 1)) (ys.drop (j + 1))) + 256 else a - b - brw (ltL (xs.drop (j + 1)) (ys.drop (j + 1)))) → neL (xs.drop j) (ys.drop j) = (neL (xs.drop (j + 1)) (ys.drop (j + 1)) || (d != 0))) := by
        intro d hd
        rw [drop_cons xs j l1, drop_cons ys j l2, hxa, hyb]; exact neL_step a b _ _ ⟨a0, a1⟩ ⟨b0, b1⟩ d hd
      clear hxa hyb l1 l2
      have hbr := brw_01 (ltL (xs.drop (j + 1)) (ys.drop (j + 1)))
      generalize hB : brw (ltL (xs.drop (j + 1)) (ys.drop (j + 1))) = B at *
      generalize hZ : neL (xs.drop (j + 1)) (ys.drop (j + 1)) = Z at *
      clear hB hZ
      obtain ⟨B0, B1⟩ : 0 ≤ B ∧ B ≤ 1 := by omega
      clear hbr
      rw [show (((j + 1 : Nat) : Int) - 1) = (j : Int) from by omega]
      have hj : (j : Int) < 20 := by omega
      go_wp2_with fail
      go_quiet (fail)
      go_wp2_with fail
      · have h1 : a - b - B < 0 := by assumption
        have h2 : (a - b - B + 256 != 0) = true := by assumption
        go_roundw
        case rel => exact ⟨j, n + nq, by omega, rfl, by rw [HL.out]; simp [brw, h1], by rw [HN.out (a - b - B + 256) (by rw [if_pos h1]), h2]; simp, rfl⟩
        case measure => simp [intOf]; omega
      · have h1 : a - b - B < 0 := by assumption
        have h2 : (a - b - B + 256 != 0) = false := by assumption
        go_roundw
        case rel => exact ⟨j, n + nq, by omega, rfl, by rw [HL.out]; simp [brw, h1], by rw [HN.out (a - b - B + 256) (by rw [if_pos h1]), h2]; simp, rfl⟩
        case measure => simp [intOf]; omega
      · have h1 : ¬ a - b - B < 0 := by omega
        have h2 : (a - b - B != 0) = true := by assumption
        go_roundw
        case rel => exact ⟨j, n + nq, by omega, rfl, by rw [HL.out]; simp [brw, h1], by rw [HN.out (a - b - B) (by rw [if_neg h1]), h2]; simp, rfl⟩
        case measure => simp [intOf]; omega
      · have h1 : ¬ a - b - B < 0 := by omega
        have h2 : (a - b - B != 0) = false := by assumption
        go_roundw
        case rel => exact ⟨j, n + nq, by omega, rfl, by rw [HL.out]; simp [brw, h1], by rw [HN.out (a - b - B) (by rw [if_neg h1]), h2]; simp, rfl⟩
        case measure => simp [intOf]; omega

/-! ### bytes.Compare over two rows of cells -/
theorem load_slice {P : Program} (w : World) (b c : Nat) (xs : List Int) (hc : ∀ j x, xs[j]? = some x → w.cell? ⟨b, j, none⟩ = some (.int .u8 x)) :
    (Extern.Bytes.bytesOf (.slice (some ⟨b, 0, none⟩) xs.length c)).run P w = .ok ⟨(Lib.bytesOf xs).toArray⟩ w := by
  have hl := Lib.run_loadBytesX (P := P) w xs ⟨b, 0, none⟩ .empty (fun j x hj => by
    have e : (⟨b, 0, none⟩ : Addr).add j = ⟨b, j, none⟩ := by unfold Addr.add; split <;> simp_all
    rw [e]; exact hc j x hj)
  have he : (⟨ByteArray.empty.data ++ (Lib.bytesOf xs).toArray⟩ : ByteArray) = ⟨(Lib.bytesOf xs).toArray⟩ := by
    apply ByteArray.ext
    show (#[] : Array UInt8) ++ (Lib.bytesOf xs).toArray = (Lib.bytesOf xs).toArray
    simp
  rw [he] at hl
  exact hl

theorem run_compare {P : Program} (w : World) (b1 b2 c1 c2 : Nat) (xs ys : List Int) (hx : ∀ j x, xs[j]? = some x → w.cell? ⟨b1, j, none⟩ = some (.int .u8 x)) (hy : ∀ j x, ys[j]? = some x → w.cell? ⟨b2, j, none⟩ = some (.int .u8 x))
    (hl : xs.length = ys.length) (ba : ∀ a ∈ xs, 0 ≤ a ∧ a ≤ 255) (bb : ∀ b ∈ ys, 0 ≤ b ∧ b ≤ 255) :
    (Extern.BytealgCompare.compare #[.slice (some ⟨b1, 0, none⟩) xs.length c1, .slice (some ⟨b2, 0, none⟩) ys.length c2]).run P w = .ok (.int .i64 (sgn xs ys)) w := by
  have e := compare_octs xs ys hl ba bb
  have e1 := load_slice (P := P) w b1 c1 xs hx
  have e2 := load_slice (P := P) w b2 c2 ys hy
  show Sem.run P (Extern.Bytes.bytesOf (.slice (some ⟨b1, 0, none⟩) xs.length c1) >>= fun a => Extern.Bytes.bytesOf (.slice (some ⟨b2, 0, none⟩) ys.length c2) >>= fun b => pure (goInt (Extern.BytealgCompare.cmp a b))) w = _
  simp only [Sem.run_bind, e1, e2, Result.andThen]
  rw [Lib.cmp_eq]
  show Result.ok (goInt (Lib.compareBytes (octs xs) (octs ys))) w = _
  rw [e]; rfl

theorem compare6 (w : World) (b1 b2 : Nat) (xs ys : List Int) (hx : ∀ j x, xs[j]? = some x → w.cell? ⟨b1, j, none⟩ = some (.int .u8 x)) (hy : ∀ j x, ys[j]? = some x → w.cell? ⟨b2, j, none⟩ = some (.int .u8 x))
    (h1 : xs.length = 20) (h2 : ys.length = 20) (ba : ∀ a ∈ xs, 0 ≤ a ∧ a ≤ 255) (bb : ∀ b ∈ ys, 0 ≤ b ∧ b ≤ 255) :
    Calls Try.prog 6 #[.slice (some ⟨b1, 0, none⟩) 20 20, .slice (some ⟨b2, 0, none⟩) 20 20] w fun e w' => e = .returned (.int .i64 (sgn xs ys)) ∧ w' = w := by
  have hr := run_compare (P := Try.prog) w b1 b2 20 20 xs ys hx hy (by rw [h1, h2]) ba bb
  rw [h1, h2] at hr
  have H : Hid ((Extern.BytealgCompare.compare #[.slice (some ⟨b1, 0, none⟩) 20 20, .slice (some ⟨b2, 0, none⟩) 20 20]).run Try.prog w = .ok (.int .i64 (sgn xs ys)) w) := hr
  clear hr hx hy h1 h2 ba bb
  go_enter Try.func6, Try.ntmps6
  go_wp2
  rw [run_callFunc_extern Try.func7 (by kernel_rfl) (by kernel_rfl) (by kernel_rfl) (e := Extern.BytealgCompare.compare) (by kernel_rfl), H.out]
  simp only [Result.andThen]
  rw [Oper.upon_value]
  go_wp2
  go_ret
  exact ⟨rfl, rfl⟩

theorem cell_at (xs : List Int) (j : Nat) (x : Int) (h : xs[j]? = some x) : (cellsOf xs)[j]? = some (.int .u8 x) := by simp [cellsOf, h]
theorem cell_first (w : World) (xs ys : List Int) (n t : Nat) : ∀ j x, xs[j]? = some x → (((w.alloc (.cells (cellsOf xs) t)).alloc (.cells (cellsOf ys) t)).drewN n).cell? ⟨w.heap.size, j, none⟩ = some (.int .u8 x) := by
  intro j x h
  rw [World.cell?_drewN, World.cell?_alloc2_first, cell_at xs j x h]
theorem cell_second (w : World) (xs ys : List Int) (n t : Nat) : ∀ j x, ys[j]? = some x → (((w.alloc (.cells (cellsOf xs) t)).alloc (.cells (cellsOf ys) t)).drewN n).cell? ⟨w.heap.size + 1, j, none⟩ = some (.int .u8 x) := by
  intro j x h
  rw [World.cell?_drewN, World.cell?_alloc2_new, cell_at ys j x h]

set_option maxHeartbeats 400000 in
theorem compare5 (xs ys : List Int) (w : World) (ha : xs.length = 20) (hb : ys.length = 20) (ba : ∀ a ∈ xs, 0 ≤ a ∧ a ≤ 255) (bb : ∀ b ∈ ys, 0 ≤ b ∧ b ≤ 255) :
    Calls Try.prog 5 #[.agg (cellsOf xs), .agg (cellsOf ys)] w fun e w' => e = .returned (.int .i64 (sgn xs ys)) ∧ Kept w w' := by
  have HA : Hid (xs.length = 20) := ha
  have HB : Hid (ys.length = 20) := hb
  have BA : Hid (∀ a ∈ xs, 0 ≤ a ∧ a ≤ 255) := ba
  have BB : Hid (∀ b ∈ ys, 0 ≤ b ∧ b ≤ 255) := bb
  clear ha hb ba bb
  go_enter Try.func5, Try.ntmps5
  go_wp2
  go_quiet ((go_at_call 6; exact Calls.quiet_of_same (compare6 _ _ _ xs ys (cell_first w xs ys _ 24) (cell_second w xs ys _ 24) HA.out HB.out BA.out BB.out)))
  go_wp2
  go_ret
  exact ⟨rfl, kept_two _ _ _ _ _⟩
set_option maxHeartbeats 400000 in
theorem law3 (xs ys : List Int) (w : World) (ha : xs.length = 20) (hb : ys.length = 20) (ba : ∀ a ∈ xs, 0 ≤ a ∧ a ≤ 255) (bb : ∀ b ∈ ys, 0 ≤ b ∧ b ≤ 255) :
    Calls Try.prog 3 #[.agg (cellsOf xs), .agg (cellsOf ys)] w fun e w' => e = .returned (.bool true) ∧ Grown w w' := by
  have HA : Hid (xs.length = 20) := ha
  have HB : Hid (ys.length = 20) := hb
  have BA : Hid (∀ a ∈ xs, 0 ≤ a ∧ a ≤ 255) := ba
  have BB : Hid (∀ b ∈ ys, 0 ≤ b ∧ b ≤ 255) := bb
  clear ha hb ba bb
  have hi1 : (Try.prog.info? 22).map (·.size) = some (cellsOf xs).size := by rw [cells_size, HA.out]; kernel_rfl
  have hi2 : (Try.prog.info? 22).map (·.size) = some (cellsOf ys).size := by rw [cells_size, HB.out]; kernel_rfl
  have HI1 : Hid ((Try.prog.info? 22).map (·.size) = some (cellsOf xs).size) := hi1
  have HI2 : Hid ((Try.prog.info? 22).map (·.size) = some (cellsOf ys).size) := hi2
  clear hi1 hi2
  have HG1 : Hid (((w.alloc (.cells (cellsOf xs) 22)).alloc (.cells (cellsOf ys) 22)).heap[w.heap.size]? = some (.cells (cellsOf xs) 22 (0, 0))) := by
    show ((w.heap.push _).push _)[w.heap.size]? = _
    rw [Array.getElem?_push, if_neg (by simp), Array.getElem?_push, if_pos rfl]
  have HG2 : Hid (((w.alloc (.cells (cellsOf xs) 22)).alloc (.cells (cellsOf ys) 22)).heap[w.heap.size + 1]? = some (.cells (cellsOf ys) 22 (0, 0))) := by
    show ((w.heap.push _).push _)[w.heap.size + 1]? = _
    rw [Array.getElem?_push, if_pos (by simp)]
  have HW : Hid (Grown w ((w.alloc (.cells (cellsOf xs) 22)).alloc (.cells (cellsOf ys) 22))) := (Grown.refl _).alloc _ _ |>.alloc _ _
  have HZ : Hid (((w.alloc (.cells (cellsOf xs) 22)).alloc (.cells (cellsOf ys) 22)).heap.size = w.heap.size + 2) := by show ((w.heap.push _).push _).size = _; simp
  go_enter Try.func3, Try.ntmps3
  go_wp2_with (first | refine wpList_load_row rfl 22 _ rfl w.heap.size rfl 22 (cellsOf xs) (0, 0) _ HG1.out Try.underlying22 rfl HI1.out ?_ | refine wpList_load_row rfl 22 _ rfl (w.heap.size + 1) rfl 22 (cellsOf ys) (0, 0) _ HG2.out Try.underlying22 rfl HI2.out ?_)
  refine (sign_any xs ys _ HA.out HB.out BA.out BB.out).mono ?_
  rintro e W1 ⟨rfl, k1⟩
  have G1 : Hid (W1.heap[w.heap.size]? = some (.cells (cellsOf xs) 22 (0, 0))) := by show _ = _; rw [k1.2 _ (by rw [HZ.out]; omega)]; exact HG1.out
  have G2 : Hid (W1.heap[w.heap.size + 1]? = some (.cells (cellsOf ys) 22 (0, 0))) := by show _ = _; rw [k1.2 _ (by rw [HZ.out]; omega)]; exact HG2.out
  have GZ : Hid (w.heap.size + 2 ≤ W1.heap.size) := by have := k1.1.2.2; rw [HZ.out] at this; exact this
  have GW : Hid (Grown w W1) := Grown.trans' HW.out k1.1
  clear k1 HG1 HG2 HW HZ
  go_wp2_with (first | refine wpList_load_row rfl 22 _ rfl w.heap.size rfl 22 (cellsOf xs) (0, 0) _ G1.out Try.underlying22 rfl HI1.out ?_ | refine wpList_load_row rfl 22 _ rfl (w.heap.size + 1) rfl 22 (cellsOf ys) (0, 0) _ G2.out Try.underlying22 rfl HI2.out ?_)
  refine (compare5 xs ys _ HA.out HB.out BA.out BB.out).mono ?_
  rintro e W2 ⟨rfl, k1⟩
  have L1 : Hid (W2.heap[w.heap.size]? = some (.cells (cellsOf xs) 22 (0, 0))) := by show _ = _; rw [k1.2 _ (by have := GZ.out; omega)]; exact G1.out
  have L2 : Hid (W2.heap[w.heap.size + 1]? = some (.cells (cellsOf ys) 22 (0, 0))) := by show _ = _; rw [k1.2 _ (by have := GZ.out; omega)]; exact G2.out
  have LW : Hid (Grown w W2) := Grown.trans' GW.out k1.1
  clear k1 G1 G2 GZ GW
  go_wp2_with (first | refine wpList_load_row rfl 22 _ rfl w.heap.size rfl 22 (cellsOf xs) (0, 0) _ L1.out Try.underlying22 rfl HI1.out ?_ | refine wpList_load_row rfl 22 _ rfl (w.heap.size + 1) rfl 22 (cellsOf ys) (0, 0) _ L2.out Try.underlying22 rfl HI2.out ?_)
  refine (compare5 ys xs _ HB.out HA.out BB.out BA.out).mono ?_
  rintro e W3 ⟨rfl, k1⟩
  have MW : Hid (Grown w W3) := Grown.trans' LW.out k1.1
  have hsw : sgn ys xs = - sgn xs ys := sgn_swap xs ys (by rw [HA.out, HB.out])
  clear k1 L1 L2 LW
  rw [hsw]
  have hr : -1 ≤ sgn xs ys ∧ sgn xs ys ≤ 1 := by unfold sgn; split <;> (try split) <;> omega
  generalize sgn xs ys = v at *
  clear hsw
  obtain ⟨v1, v2⟩ := hr
  go_wp2_with fail
  go_ret
  exact ⟨rfl, MW.out⟩
end Go.Proofs.Qxb6616877a
