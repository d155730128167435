/-
  The small functions on firstOf's road: lawCount, lawValid, after, firstOf, ZZfirstOf, lawIsPrefix, lawMin, zzBytes.
-/
import Derived.Test.Qxb6616464aWidth
import Derived.ProofKit
namespace Go.Proofs.Qxb6616464a
open Go.RowKit
open Plain

set_option maxRecDepth 100000 in
set_option maxHeartbeats 400000 in
theorem count_any (s : ByteArray) (w : World) (hs : s.size ≤ 1048576) :
    Calls Try.prog 10 #[.string s] w fun e w' => e = .returned (.int .i64 (chars s 0)) ∧ w' = w := by
  go_enter Try.func10, Try.ntmps10
  go_wp2
  go_loop [3, 4] (fun n i => ∃ k c : Nat, k ≤ s.size ∧ c ≤ k ∧ i = .int .i64 k ∧ n = .int .i64 c ∧ Hid (c + chars s k = chars s 0)) (fun _ i => s.size - (intOf i).toNat)
  case atStart => exact ⟨0, 0, by omega, by omega, rfl, rfl, by show 0 + _ = _; omega⟩
  case round =>
    obtain ⟨k, c, hk, hc, rfl, rfl, hh⟩ := hrel
    by_cases hlt : k < s.size
    · have hp := wd_pos s k hlt
      have hl := wd_le s k hlt
      go_wp2_with (go_at_call 14; refine (width_any _ _ _ hlt hs).mono ?_; rintro e w' ⟨rfl, rfl⟩)
      go_round
      case rel => exact ⟨k + wd s k, c + 1, by omega, by omega, by go_num, by go_num, by have := hh.out; have := chars_step s k hlt; show _ = _; omega⟩
      case measure => simp [intOf]; omega
    · go_wp2
      go_ret
      exact ⟨ret_int (by have := hh.out; have := chars_end s k (by omega); omega), rfl⟩

/-! ### lawValid -/
theorem validB_fuel (s : ByteArray) : ∀ (f g i : Nat), s.size ≤ f + i → s.size ≤ g + i → validB s f i = validB s g i := by
  intro f
  induction f with
  | zero => intro g i hf hg; cases g with
    | zero => rfl
    | succ g => rw [validB, validB, if_neg (by omega)]
  | succ f ih => intro g i hf hg; cases g with
    | zero => rw [validB, validB, if_neg (by omega)]
    | succ g =>
      rw [validB, validB]
      by_cases h : i < s.size
      · have := wd_pos s i h
        rw [if_pos h, if_pos h, ih g _ (by omega) (by omega)]
      · rw [if_neg h, if_neg h]

/-- Well formed from i on. -/
def valid (s : ByteArray) (i : Nat) : Bool := validB s s.size i
theorem valid_end (s : ByteArray) (i : Nat) (h : s.size ≤ i) : valid s i = true := by
  unfold valid
  rw [validB_fuel s s.size 0 i (by omega) (by omega)]; rfl
theorem valid_step (s : ByteArray) (i : Nat) (h : i < s.size) : valid s i = if wd s i = 1 ∧ 128 ≤ bt s i then false else valid s (i + wd s i) := by
  have hp := wd_pos s i h
  unfold valid
  rw [validB_fuel s s.size (s.size + 1) i (by omega) (by omega)]
  rw [validB, if_pos h]
theorem valid_bad (s : ByteArray) (i : Nat) (h : i < s.size) (h1 : wd s i = 1) (h2 : 128 ≤ bt s i) : valid s i = false := by
  rw [valid_step s i h, if_pos ⟨h1, h2⟩]
theorem valid_good (s : ByteArray) (i : Nat) (h : i < s.size) (h1 : ¬ (wd s i = 1 ∧ 128 ≤ bt s i)) : valid s i = valid s (i + wd s i) := by
  rw [valid_step s i h, if_neg h1]
theorem ret_two {k : IntKind} {a b : Int} {c : Bool} (h : a = b) : Ending.returned (.tuple #[.int k a, .bool c]) = .returned (.tuple #[.int k b, .bool c]) := by rw [h]
theorem ret_bool {a b : Bool} (h : a = b) : Ending.returned (.bool a) = .returned (.bool b) := by rw [h]

set_option maxRecDepth 100000 in
set_option maxHeartbeats 400000 in
theorem valid_any (s : ByteArray) (w : World) (hs : s.size ≤ 1048576) :
    Calls Try.prog 13 #[.string s] w fun e w' => e = .returned (.bool (valid s 0)) ∧ w' = w := by
  go_enter Try.func13, Try.ntmps13
  go_wp2
  go_loop [2, 3, 4] (fun r i c => ∃ k : Nat, k ≤ s.size ∧ i = .int .i64 k ∧ r = .bool false ∧ Hid (valid s k = valid s 0)) (fun _ i _ => s.size - (intOf i).toNat)
  case atStart => exact ⟨0, by omega, rfl, rfl, rfl⟩
  case round =>
    obtain ⟨k, hk, rfl, rfl, hh⟩ := hrel
    by_cases hlt : k < s.size
    · have hp := wd_pos s k hlt
      have hl := wd_le s k hlt
      have Q0 : Hid (bt s k = s[k].toNat) := bt_eq s k hlt
      by_cases h1 : wd s k = 1
      · have e1 : (((wd s k : Nat) : Int) == 1) = true := by rw [beq_iff_eq]; omega
        have H1 : Hid (wd s k = 1) := h1
        clear h1
        go_wp2_with (go_at_call 14; refine (width_any _ _ _ hlt hs).mono ?_; rintro e w' ⟨rfl, rfl⟩)
        · go_ret
          exact ⟨ret_bool (by rw [← hh.out]; exact (valid_bad s k hlt H1.out (by have := Q0.out; omega)).symm), rfl⟩
        · go_round
          case rel => exact ⟨k + wd s k, hl, by go_num, rfl, by show _ = _; rw [← hh.out]; exact (valid_good s k hlt (by have := Q0.out; omega)).symm⟩
          case measure => simp [intOf]; omega
      · have e1 : (((wd s k : Nat) : Int) == 1) = false := by rw [beq_eq_false_iff_ne]; omega
        have H1 : Hid (¬ wd s k = 1) := h1
        clear h1
        go_wp2_with (go_at_call 14; refine (width_any _ _ _ hlt hs).mono ?_; rintro e w' ⟨rfl, rfl⟩)
        go_round
        case rel => exact ⟨k + wd s k, hl, by go_num, rfl, by show _ = _; rw [← hh.out]; exact (valid_good s k hlt (by have := H1.out; omega)).symm⟩
        case measure => simp [intOf]; omega
    · go_wp2
      go_ret
      exact ⟨ret_bool (by rw [← hh.out]; exact (valid_end s k (by omega)).symm), rfl⟩

/-! ### after, firstOf -/
theorem adv_add (s : ByteArray) : ∀ (k j i : Nat), adv s (k + j) i = adv s j (adv s k i) := by
  intro k
  induction k with
  | zero => intro j i; rw [Nat.zero_add]; rfl
  | succ k ih =>
    intro j i
    rw [Nat.add_right_comm, adv, adv]
    by_cases h : i < s.size
    · rw [if_pos h, if_pos h, ih]
    · rw [if_neg h, if_neg h]
      cases j with
      | zero => rfl
      | succ j => rw [adv, if_neg h]
theorem adv_stuck (s : ByteArray) (j i : Nat) (h : ¬ i < s.size) : adv s j i = i := by
  cases j with
  | zero => rfl
  | succ j => rw [adv, if_neg h]
theorem adv_next (s : ByteArray) (k i : Nat) (h : adv s k i < s.size) : adv s (k + 1) i = adv s k i + wd s (adv s k i) := by
  rw [adv_add, adv, if_pos h]; rfl

set_option maxRecDepth 100000 in
set_option maxHeartbeats 400000 in
theorem after_any (s : ByteArray) (w : World) (hs : s.size ≤ 1048576) :
    Calls Try.prog 22 #[.string s, .int .i64 8] w fun e w' => ∃ b pos, e = .returned (.tuple #[.int .i64 (adv s 8 0), .bool b]) ∧ w' = w.iter s pos := by
  go_enter Try.func22, Try.ntmps22
  go_wp2
  go_loopw [1, 4, 5, 6] (fun n r b i w' => ∃ k : Nat, k ≤ 8 ∧ n = .int .i64 (8 - (k : Int)) ∧ r = .int .i64 0 ∧ b = .bool false ∧ w' = w.iter s (adv s k 0)) (fun _ _ _ _ w' => 1 + s.size - w'.iterPos w.heap.size)
  case atStart => exact ⟨0, by omega, rfl, rfl, rfl, rfl⟩
  case round =>
    obtain ⟨k, hk, rfl, rfl, rfl, rfl⟩ := hrel
    have hle := adv_le s k 0 (by omega)
    by_cases hp : adv s k 0 < s.size
    · have hnx : ∀ ty, (Instr.next (.pointer (some ⟨w.heap.size, 0, none⟩)) true ty).run Try.prog (w.iter s (adv s k 0)) = _ := fun ty => run_next_any w s (adv s k 0) ty hp
      have HN : Hid (adv s (k + 1) 0 = adv s k 0 + (Utf8.decode s (adv s k 0)).2) := by rw [decode_wd]; exact adv_next s k 0 hp
      have hw := wd_pos s _ hp
      by_cases h8 : k = 8
      · subst h8
        go_wp2
        go_ret2
        exact ⟨_, _, rfl, rfl⟩
      · have e8 : ((8 - (k : Int)) == 0) = false := by rw [beq_eq_false_iff_ne]; omega
        go_wp2
        go_roundw
        case rel => exact ⟨k + 1, by omega, by go_num, rfl, rfl, by rw [HN.out]⟩
        case measure => rw [← decode_wd] at hw; simp; omega
    · have hnx : ∀ ty, (Instr.next (.pointer (some ⟨w.heap.size, 0, none⟩)) true ty).run Try.prog (w.iter s (adv s k 0)) = _ := fun ty => run_next_end w s (adv s k 0) ty hp
      have HE : Hid (adv s 8 0 = s.size) := by
        show _ = _
        rw [show (8 : Nat) = k + (8 - k) from by omega, adv_add, adv_stuck s _ _ hp]; omega
      go_wp2
      go_ret2
      exact ⟨false, adv s k 0, ret_two (a := ((s.size : Nat) : Int)) (c := false) (by rw [HE.out]), rfl⟩

theorem firstOf_any (s : ByteArray) (w : World) (hs : s.size ≤ 1048576) :
    Calls Try.prog 20 #[.string s] w fun e w' => ∃ pos, e = .returned (.string (s.extract 0 (adv s 8 0))) ∧ w' = w.iter s pos := by
  have hle := adv_le s 8 0 (by omega)
  generalize hn : adv s 8 0 = n at *
  have Hn : Hid (adv s 8 0 = n) := hn
  clear hn
  go_enter Try.func20, Try.ntmps20
  go_wp2_with (go_at_call 22; refine (after_any _ _ hs).mono ?_; rintro e w' ⟨b, pos, rfl, rfl⟩; rw [Hn.out])
  go_ret
  exact ⟨_, rfl, rfl⟩

theorem zzfirstOf_any (s : ByteArray) (w : World) (hs : s.size ≤ 1048576) :
    Calls Try.prog 8 #[.string s] w fun e w' => ∃ pos, e = .returned (.string (s.extract 0 (adv s 8 0))) ∧ w' = w.iter s pos := by
  go_enter Try.func8, Try.ntmps8
  go_wp2_with (go_at_call 20; refine (firstOf_any _ _ hs).mono ?_; rintro e w' ⟨pos, rfl, rfl⟩)
  go_ret
  exact ⟨_, rfl, rfl⟩

theorem min_any (a b : Int) (w : World) :
    Calls Try.prog 11 #[.int .i64 a, .int .i64 b] w fun e w' => e = .returned (.int .i64 (min a b)) ∧ w' = w := by
  by_cases h : a < b
  · go_enter Try.func11, Try.ntmps11
    go_wp2
    go_ret
    exact ⟨ret_int (by omega), rfl⟩
  · go_enter Try.func11, Try.ntmps11
    go_wp2
    go_ret
    exact ⟨ret_int (by omega), rfl⟩

theorem zzbytes7 (a b : ByteArray) (w : World) (ha : a.size ≤ maxLen) (hb : b.size ≤ maxLen) :
    Calls Try.prog 7 #[.string a, .string b] w fun e w' => e = .returned (.bool (decide (a.size + b.size ≤ 1048576))) ∧ w' = w := by
  unfold maxLen at *
  go_enter Try.func7, Try.ntmps7
  go_wp2
  all_goals (go_ret; exact ⟨ret_bool (by simp; try omega), rfl⟩)

theorem zzbytes12 (a b : ByteArray) (w : World) (ha : a.size ≤ maxLen) (hb : b.size ≤ maxLen) :
    Calls Try.prog 12 #[.string a, .string b] w fun e w' => e = .returned (.bool (decide (a.size + b.size ≤ 1048576))) ∧ w' = w := by
  unfold maxLen at *
  go_enter Try.func12, Try.ntmps12
  go_wp2
  all_goals (go_ret; exact ⟨ret_bool (by simp; try omega), rfl⟩)

theorem isPrefix_true (p s : ByteArray) (w : World) (h1 : p.size ≤ s.size) (h2 : Hid (s.extract 0 p.size = p)) (_hs : s.size ≤ 1048576) :
    Calls Try.prog 9 #[.string p, .string s] w fun e w' => e = .returned (.bool true) ∧ w' = w := by
  have E : Hid (((s.extract 0 p.size).toList == p.toList) = true) := by show _ = _; rw [h2.out]; simp
  clear h2
  go_enter Try.func9, Try.ntmps9
  go_wp2
  go_ret
  exact ⟨ret_bool E.out, rfl⟩

theorem Grown.iter {W w' : World} (h : Grown W w') (s : ByteArray) (p : Nat) : Grown W (w'.iter s p) := by
  refine ⟨World.keptBut_trans h.1 (World.keptBut_alloc _ _ _), fun a => ?_, Nat.le_trans h.2.2 (by show w'.heap.size ≤ (w'.heap.push _).size; simp)⟩
  refine Eq.trans ?_ (h.2.1 a)
  by_cases hb : a.block = w'.heap.size
  · have e1 : (w'.alloc (.stringIter s p)).heap[a.block]? = some (.stringIter s p) := by rw [hb]; exact (MapKept.heap_alloc w' _).1
    have e2 : w'.heap[a.block]? = none := by rw [hb]; simp
    show (w'.alloc (.stringIter s p)).frozen? a = w'.frozen? a
    simp [World.frozen?, e1, e2]
  · exact World.frozen?_alloc_old _ _ _ hb
theorem Grown.drewN {W w' : World} (h : Grown W w') (n : Nat) : Grown W (w'.drewN n) := by
  induction n generalizing w' with
  | zero => exact h
  | succ n ih => exact ih h

end Go.Proofs.Qxb6616464a
