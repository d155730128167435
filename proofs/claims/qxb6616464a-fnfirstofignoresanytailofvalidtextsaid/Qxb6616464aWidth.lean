/-
  lawWidth: the Go text gives the width of the character at i: one walk for each class of first bytes.
-/
import Derived.Test.Qxb6616464aRows
import Derived.Test.Qxb6616464aPlain
import Derived.WalkKit
import Derived.WalkSpells
import Derived.WalkLawsBesides
namespace Go.Proofs.Qxb6616464a
open Go.RowKit
open Plain

theorem ret_int {k : IntKind} {a b : Int} (h : a = b) : Ending.returned (.int k a) = .returned (.int k b) := by rw [h]

theorem lwOne {n b0 b1 b2 b3 : Nat} (h : (b0 < 194 ∨ 245 ≤ b0) ∨ (194 ≤ b0 ∧ b0 ≤ 223 ∧ (n < 2 ∨ b1 < 128 ∨ 191 < b1)) ∨ (224 ≤ b0 ∧ b0 ≤ 239 ∧ (n < 3 ∨ b1 < 128 ∨ 191 < b1 ∨ (b0 = 224 ∧ b1 < 160) ∨ (b0 = 237 ∧ 159 < b1) ∨ b2 < 128 ∨ 191 < b2))
    ∨ (240 ≤ b0 ∧ b0 ≤ 244 ∧ (n < 4 ∨ b1 < 128 ∨ 191 < b1 ∨ (b0 = 240 ∧ b1 < 144) ∨ (b0 = 244 ∧ 143 < b1) ∨ b2 < 128 ∨ 191 < b2 ∨ b3 < 128 ∨ 191 < b3))) : lw n b0 b1 b2 b3 = 1 := by
  unfold lw; repeat' split
  all_goals omega
theorem lwTwo {n b0 b1 b2 b3 : Nat} (h : 194 ≤ b0 ∧ b0 ≤ 223 ∧ 2 ≤ n ∧ 128 ≤ b1 ∧ b1 ≤ 191) : lw n b0 b1 b2 b3 = 2 := by
  unfold lw; repeat' split
  all_goals omega
theorem lwThree {n b0 b1 b2 b3 : Nat} (h : 224 ≤ b0 ∧ b0 ≤ 239 ∧ 3 ≤ n ∧ 128 ≤ b1 ∧ b1 ≤ 191 ∧ (b0 = 224 → 160 ≤ b1) ∧ (b0 = 237 → b1 ≤ 159) ∧ 128 ≤ b2 ∧ b2 ≤ 191) : lw n b0 b1 b2 b3 = 3 := by
  unfold lw; repeat' split
  all_goals omega
theorem lwFour {n b0 b1 b2 b3 : Nat} (h : 240 ≤ b0 ∧ b0 ≤ 244 ∧ 4 ≤ n ∧ 128 ≤ b1 ∧ b1 ≤ 191 ∧ (b0 = 240 → 144 ≤ b1) ∧ (b0 = 244 → b1 ≤ 143) ∧ 128 ≤ b2 ∧ b2 ≤ 191 ∧ 128 ≤ b3 ∧ b3 ≤ 191) : lw n b0 b1 b2 b3 = 4 := by
  unfold lw; repeat' split
  all_goals omega

set_option maxRecDepth 100000 in
set_option maxHeartbeats 1000000 in
theorem width_A (s : ByteArray) (i : Nat) (w : World) (hi : i < s.size) (_hs : s.size ≤ 1048576) (hlo : (0 : Int) ≤ s[i].toNat) (hhi : (s[i].toNat : Int) ≤ 127) :
    Calls Try.prog 14 #[.string s, .int .i64 i] w fun e w' => e = .returned (.int .i64 (wd s i)) ∧ w' = w := by
  have Q0 : Hid (bt s i = s[i].toNat) := bt_eq s i hi
  have Q : Hid (∀ k, ∀ h : i + k < s.size, bt s (i + k) = s[i + k].toNat) := fun k => bt_eq s (i + k)
  have e224 : ((s[i].toNat : Int) == 224) = false := by rw [beq_eq_false_iff_ne]; omega
  have e237 : ((s[i].toNat : Int) == 237) = false := by rw [beq_eq_false_iff_ne]; omega
  have e238 : ((s[i].toNat : Int) == 238) = false := by rw [beq_eq_false_iff_ne]; omega
  have e239 : ((s[i].toNat : Int) == 239) = false := by rw [beq_eq_false_iff_ne]; omega
  have e240 : ((s[i].toNat : Int) == 240) = false := by rw [beq_eq_false_iff_ne]; omega
  have e244 : ((s[i].toNat : Int) == 244) = false := by rw [beq_eq_false_iff_ne]; omega
  go_enter Try.func14, Try.ntmps14
  go_wp2
  go_ret
  exact ⟨ret_int (by unfold wd; rw [lwOne (by have := Q0.out; omega)]; rfl), rfl⟩

set_option maxRecDepth 100000 in
set_option maxHeartbeats 1000000 in
theorem width_B (s : ByteArray) (i : Nat) (w : World) (hi : i < s.size) (_hs : s.size ≤ 1048576) (hlo : (128 : Int) ≤ s[i].toNat) (hhi : (s[i].toNat : Int) ≤ 193) :
    Calls Try.prog 14 #[.string s, .int .i64 i] w fun e w' => e = .returned (.int .i64 (wd s i)) ∧ w' = w := by
  have Q0 : Hid (bt s i = s[i].toNat) := bt_eq s i hi
  have Q : Hid (∀ k, ∀ h : i + k < s.size, bt s (i + k) = s[i + k].toNat) := fun k => bt_eq s (i + k)
  have e224 : ((s[i].toNat : Int) == 224) = false := by rw [beq_eq_false_iff_ne]; omega
  have e237 : ((s[i].toNat : Int) == 237) = false := by rw [beq_eq_false_iff_ne]; omega
  have e238 : ((s[i].toNat : Int) == 238) = false := by rw [beq_eq_false_iff_ne]; omega
  have e239 : ((s[i].toNat : Int) == 239) = false := by rw [beq_eq_false_iff_ne]; omega
  have e240 : ((s[i].toNat : Int) == 240) = false := by rw [beq_eq_false_iff_ne]; omega
  have e244 : ((s[i].toNat : Int) == 244) = false := by rw [beq_eq_false_iff_ne]; omega
  go_enter Try.func14, Try.ntmps14
  go_wp2
  go_ret
  exact ⟨ret_int (by unfold wd; rw [lwOne (by have := Q0.out; omega)]; rfl), rfl⟩

set_option maxRecDepth 100000 in
set_option maxHeartbeats 1000000 in
theorem width_C (s : ByteArray) (i : Nat) (w : World) (hi : i < s.size) (_hs : s.size ≤ 1048576) (hlo : (194 : Int) ≤ s[i].toNat) (hhi : (s[i].toNat : Int) ≤ 223) :
    Calls Try.prog 14 #[.string s, .int .i64 i] w fun e w' => e = .returned (.int .i64 (wd s i)) ∧ w' = w := by
  have Q0 : Hid (bt s i = s[i].toNat) := bt_eq s i hi
  have Q : Hid (∀ k, ∀ h : i + k < s.size, bt s (i + k) = s[i + k].toNat) := fun k => bt_eq s (i + k)
  have e224 : ((s[i].toNat : Int) == 224) = false := by rw [beq_eq_false_iff_ne]; omega
  have e237 : ((s[i].toNat : Int) == 237) = false := by rw [beq_eq_false_iff_ne]; omega
  have e238 : ((s[i].toNat : Int) == 238) = false := by rw [beq_eq_false_iff_ne]; omega
  have e239 : ((s[i].toNat : Int) == 239) = false := by rw [beq_eq_false_iff_ne]; omega
  have e240 : ((s[i].toNat : Int) == 240) = false := by rw [beq_eq_false_iff_ne]; omega
  have e244 : ((s[i].toNat : Int) == 244) = false := by rw [beq_eq_false_iff_ne]; omega
  go_enter Try.func14, Try.ntmps14
  go_wp2
  · go_ret
    exact ⟨ret_int (by unfold wd; rw [lwOne (by have := Q0.out; omega)]; rfl), rfl⟩
  · go_ret
    exact ⟨ret_int (by unfold wd; rw [lwOne (by have := Q0.out; have := Q.out 1 (by omega); omega)]; rfl), rfl⟩
  · go_loop [9] (fun t => ∃ k : Nat, 2 ≤ k ∧ k ≤ 4 ∧ t = .int .i64 k ∧ ∀ j, 2 ≤ j → j < k → 128 ≤ bt s (i + j) ∧ bt s (i + j) ≤ 191) (fun t => 4 - (intOf t).toNat)
    case atStart => exact ⟨2, by omega, by omega, rfl, fun j h1 h2 => by omega⟩
    case round =>
      obtain ⟨k, hk, hk4, rfl, hb⟩ := hrel
      have HB : Hid (∀ j, 2 ≤ j → j < k → 128 ≤ bt s (i + j) ∧ bt s (i + j) ≤ 191) := hb
      clear hb
      go_wp2
      go_ret
      exact ⟨ret_int (by unfold wd; rw [lwTwo (by have := Q0.out; have := Q.out 1 (by omega); omega)]; rfl), rfl⟩
  · go_ret
    exact ⟨ret_int (by unfold wd; rw [lwOne (by have := Q0.out; have := Q.out 1 (by omega); omega)]; rfl), rfl⟩

set_option maxRecDepth 100000 in
set_option maxHeartbeats 1000000 in
theorem width_D (s : ByteArray) (i : Nat) (w : World) (hi : i < s.size) (_hs : s.size ≤ 1048576) (hlo : (224 : Int) ≤ s[i].toNat) (hhi : (s[i].toNat : Int) ≤ 224) :
    Calls Try.prog 14 #[.string s, .int .i64 i] w fun e w' => e = .returned (.int .i64 (wd s i)) ∧ w' = w := by
  have Q0 : Hid (bt s i = s[i].toNat) := bt_eq s i hi
  have Q : Hid (∀ k, ∀ h : i + k < s.size, bt s (i + k) = s[i + k].toNat) := fun k => bt_eq s (i + k)
  have e224 : ((s[i].toNat : Int) == 224) = true := by rw [beq_iff_eq]; omega
  have e237 : ((s[i].toNat : Int) == 237) = false := by rw [beq_eq_false_iff_ne]; omega
  have e238 : ((s[i].toNat : Int) == 238) = false := by rw [beq_eq_false_iff_ne]; omega
  have e239 : ((s[i].toNat : Int) == 239) = false := by rw [beq_eq_false_iff_ne]; omega
  have e240 : ((s[i].toNat : Int) == 240) = false := by rw [beq_eq_false_iff_ne]; omega
  have e244 : ((s[i].toNat : Int) == 244) = false := by rw [beq_eq_false_iff_ne]; omega
  go_enter Try.func14, Try.ntmps14
  go_wp2
  · go_ret
    exact ⟨ret_int (by unfold wd; rw [lwOne (by have := Q0.out; omega)]; rfl), rfl⟩
  · go_ret
    exact ⟨ret_int (by unfold wd; rw [lwOne (by have := Q0.out; have := Q.out 1 (by omega); omega)]; rfl), rfl⟩
  · go_loop [9] (fun t => ∃ k : Nat, 2 ≤ k ∧ k ≤ 4 ∧ t = .int .i64 k ∧ ∀ j, 2 ≤ j → j < k → 128 ≤ bt s (i + j) ∧ bt s (i + j) ≤ 191) (fun t => 4 - (intOf t).toNat)
    case atStart => exact ⟨2, by omega, by omega, rfl, fun j h1 h2 => by omega⟩
    case round =>
      obtain ⟨k, hk, hk4, rfl, hb⟩ := hrel
      have HB : Hid (∀ j, 2 ≤ j → j < k → 128 ≤ bt s (i + j) ∧ bt s (i + j) ≤ 191) := hb
      clear hb
      go_wp2
      · go_ret
        have hq := Q.out k (by omega)
        have hkk : k = 2 ∨ k = 3 := by omega
        exact ⟨ret_int (by unfold wd; rw [lwOne (by have := Q0.out; rcases hkk with rfl | rfl <;> omega)]; rfl), rfl⟩
      · have hq := Q.out k (by omega)
        go_round
        case rel =>
          refine ⟨k + 1, by omega, by omega, by go_num, fun j h1 h2 => ?_⟩
          by_cases hj : j = k
          · subst hj; omega
          · exact HB.out j h1 (by omega)
        case measure => simp [intOf]; omega
      · go_ret
        have hq := Q.out k (by omega)
        have hkk : k = 2 ∨ k = 3 := by omega
        exact ⟨ret_int (by unfold wd; rw [lwOne (by have := Q0.out; rcases hkk with rfl | rfl <;> omega)]; rfl), rfl⟩
      · go_ret
        exact ⟨ret_int (by unfold wd; rw [lwThree (by have := Q0.out; have := Q.out 1 (by omega); have := HB.out 2 (by omega) (by omega); omega)]; rfl), rfl⟩
  · go_ret
    exact ⟨ret_int (by unfold wd; rw [lwOne (by have := Q0.out; have := Q.out 1 (by omega); omega)]; rfl), rfl⟩

set_option maxRecDepth 100000 in
set_option maxHeartbeats 1000000 in
theorem width_E (s : ByteArray) (i : Nat) (w : World) (hi : i < s.size) (_hs : s.size ≤ 1048576) (hlo : (225 : Int) ≤ s[i].toNat) (hhi : (s[i].toNat : Int) ≤ 236) :
    Calls Try.prog 14 #[.string s, .int .i64 i] w fun e w' => e = .returned (.int .i64 (wd s i)) ∧ w' = w := by
  have Q0 : Hid (bt s i = s[i].toNat) := bt_eq s i hi
  have Q : Hid (∀ k, ∀ h : i + k < s.size, bt s (i + k) = s[i + k].toNat) := fun k => bt_eq s (i + k)
  have e224 : ((s[i].toNat : Int) == 224) = false := by rw [beq_eq_false_iff_ne]; omega
  have e237 : ((s[i].toNat : Int) == 237) = false := by rw [beq_eq_false_iff_ne]; omega
  have e238 : ((s[i].toNat : Int) == 238) = false := by rw [beq_eq_false_iff_ne]; omega
  have e239 : ((s[i].toNat : Int) == 239) = false := by rw [beq_eq_false_iff_ne]; omega
  have e240 : ((s[i].toNat : Int) == 240) = false := by rw [beq_eq_false_iff_ne]; omega
  have e244 : ((s[i].toNat : Int) == 244) = false := by rw [beq_eq_false_iff_ne]; omega
  go_enter Try.func14, Try.ntmps14
  go_wp2
  · go_ret
    exact ⟨ret_int (by unfold wd; rw [lwOne (by have := Q0.out; omega)]; rfl), rfl⟩
  · go_ret
    exact ⟨ret_int (by unfold wd; rw [lwOne (by have := Q0.out; have := Q.out 1 (by omega); omega)]; rfl), rfl⟩
  · go_loop [9] (fun t => ∃ k : Nat, 2 ≤ k ∧ k ≤ 4 ∧ t = .int .i64 k ∧ ∀ j, 2 ≤ j → j < k → 128 ≤ bt s (i + j) ∧ bt s (i + j) ≤ 191) (fun t => 4 - (intOf t).toNat)
    case atStart => exact ⟨2, by omega, by omega, rfl, fun j h1 h2 => by omega⟩
    case round =>
      obtain ⟨k, hk, hk4, rfl, hb⟩ := hrel
      have HB : Hid (∀ j, 2 ≤ j → j < k → 128 ≤ bt s (i + j) ∧ bt s (i + j) ≤ 191) := hb
      clear hb
      go_wp2
      · go_ret
        have hq := Q.out k (by omega)
        have hkk : k = 2 ∨ k = 3 := by omega
        exact ⟨ret_int (by unfold wd; rw [lwOne (by have := Q0.out; rcases hkk with rfl | rfl <;> omega)]; rfl), rfl⟩
      · have hq := Q.out k (by omega)
        go_round
        case rel =>
          refine ⟨k + 1, by omega, by omega, by go_num, fun j h1 h2 => ?_⟩
          by_cases hj : j = k
          · subst hj; omega
          · exact HB.out j h1 (by omega)
        case measure => simp [intOf]; omega
      · go_ret
        have hq := Q.out k (by omega)
        have hkk : k = 2 ∨ k = 3 := by omega
        exact ⟨ret_int (by unfold wd; rw [lwOne (by have := Q0.out; rcases hkk with rfl | rfl <;> omega)]; rfl), rfl⟩
      · go_ret
        exact ⟨ret_int (by unfold wd; rw [lwThree (by have := Q0.out; have := Q.out 1 (by omega); have := HB.out 2 (by omega) (by omega); omega)]; rfl), rfl⟩
  · go_ret
    exact ⟨ret_int (by unfold wd; rw [lwOne (by have := Q0.out; have := Q.out 1 (by omega); omega)]; rfl), rfl⟩

set_option maxRecDepth 100000 in
set_option maxHeartbeats 1000000 in
theorem width_F (s : ByteArray) (i : Nat) (w : World) (hi : i < s.size) (_hs : s.size ≤ 1048576) (hlo : (237 : Int) ≤ s[i].toNat) (hhi : (s[i].toNat : Int) ≤ 237) :
    Calls Try.prog 14 #[.string s, .int .i64 i] w fun e w' => e = .returned (.int .i64 (wd s i)) ∧ w' = w := by
  have Q0 : Hid (bt s i = s[i].toNat) := bt_eq s i hi
  have Q : Hid (∀ k, ∀ h : i + k < s.size, bt s (i + k) = s[i + k].toNat) := fun k => bt_eq s (i + k)
  have e224 : ((s[i].toNat : Int) == 224) = false := by rw [beq_eq_false_iff_ne]; omega
  have e237 : ((s[i].toNat : Int) == 237) = true := by rw [beq_iff_eq]; omega
  have e238 : ((s[i].toNat : Int) == 238) = false := by rw [beq_eq_false_iff_ne]; omega
  have e239 : ((s[i].toNat : Int) == 239) = false := by rw [beq_eq_false_iff_ne]; omega
  have e240 : ((s[i].toNat : Int) == 240) = false := by rw [beq_eq_false_iff_ne]; omega
  have e244 : ((s[i].toNat : Int) == 244) = false := by rw [beq_eq_false_iff_ne]; omega
  go_enter Try.func14, Try.ntmps14
  go_wp2
  · go_ret
    exact ⟨ret_int (by unfold wd; rw [lwOne (by have := Q0.out; omega)]; rfl), rfl⟩
  · go_ret
    exact ⟨ret_int (by unfold wd; rw [lwOne (by have := Q0.out; have := Q.out 1 (by omega); omega)]; rfl), rfl⟩
  · go_loop [9] (fun t => ∃ k : Nat, 2 ≤ k ∧ k ≤ 4 ∧ t = .int .i64 k ∧ ∀ j, 2 ≤ j → j < k → 128 ≤ bt s (i + j) ∧ bt s (i + j) ≤ 191) (fun t => 4 - (intOf t).toNat)
    case atStart => exact ⟨2, by omega, by omega, rfl, fun j h1 h2 => by omega⟩
    case round =>
      obtain ⟨k, hk, hk4, rfl, hb⟩ := hrel
      have HB : Hid (∀ j, 2 ≤ j → j < k → 128 ≤ bt s (i + j) ∧ bt s (i + j) ≤ 191) := hb
      clear hb
      go_wp2
      · go_ret
        have hq := Q.out k (by omega)
        have hkk : k = 2 ∨ k = 3 := by omega
        exact ⟨ret_int (by unfold wd; rw [lwOne (by have := Q0.out; rcases hkk with rfl | rfl <;> omega)]; rfl), rfl⟩
      · have hq := Q.out k (by omega)
        go_round
        case rel =>
          refine ⟨k + 1, by omega, by omega, by go_num, fun j h1 h2 => ?_⟩
          by_cases hj : j = k
          · subst hj; omega
          · exact HB.out j h1 (by omega)
        case measure => simp [intOf]; omega
      · go_ret
        have hq := Q.out k (by omega)
        have hkk : k = 2 ∨ k = 3 := by omega
        exact ⟨ret_int (by unfold wd; rw [lwOne (by have := Q0.out; rcases hkk with rfl | rfl <;> omega)]; rfl), rfl⟩
      · go_ret
        exact ⟨ret_int (by unfold wd; rw [lwThree (by have := Q0.out; have := Q.out 1 (by omega); have := HB.out 2 (by omega) (by omega); omega)]; rfl), rfl⟩
  · go_ret
    exact ⟨ret_int (by unfold wd; rw [lwOne (by have := Q0.out; have := Q.out 1 (by omega); omega)]; rfl), rfl⟩

set_option maxRecDepth 100000 in
set_option maxHeartbeats 1000000 in
theorem width_G (s : ByteArray) (i : Nat) (w : World) (hi : i < s.size) (_hs : s.size ≤ 1048576) (hlo : (238 : Int) ≤ s[i].toNat) (hhi : (s[i].toNat : Int) ≤ 238) :
    Calls Try.prog 14 #[.string s, .int .i64 i] w fun e w' => e = .returned (.int .i64 (wd s i)) ∧ w' = w := by
  have Q0 : Hid (bt s i = s[i].toNat) := bt_eq s i hi
  have Q : Hid (∀ k, ∀ h : i + k < s.size, bt s (i + k) = s[i + k].toNat) := fun k => bt_eq s (i + k)
  have e224 : ((s[i].toNat : Int) == 224) = false := by rw [beq_eq_false_iff_ne]; omega
  have e237 : ((s[i].toNat : Int) == 237) = false := by rw [beq_eq_false_iff_ne]; omega
  have e238 : ((s[i].toNat : Int) == 238) = true := by rw [beq_iff_eq]; omega
  have e239 : ((s[i].toNat : Int) == 239) = false := by rw [beq_eq_false_iff_ne]; omega
  have e240 : ((s[i].toNat : Int) == 240) = false := by rw [beq_eq_false_iff_ne]; omega
  have e244 : ((s[i].toNat : Int) == 244) = false := by rw [beq_eq_false_iff_ne]; omega
  go_enter Try.func14, Try.ntmps14
  go_wp2
  · go_ret
    exact ⟨ret_int (by unfold wd; rw [lwOne (by have := Q0.out; omega)]; rfl), rfl⟩
  · go_ret
    exact ⟨ret_int (by unfold wd; rw [lwOne (by have := Q0.out; have := Q.out 1 (by omega); omega)]; rfl), rfl⟩
  · go_loop [9] (fun t => ∃ k : Nat, 2 ≤ k ∧ k ≤ 4 ∧ t = .int .i64 k ∧ ∀ j, 2 ≤ j → j < k → 128 ≤ bt s (i + j) ∧ bt s (i + j) ≤ 191) (fun t => 4 - (intOf t).toNat)
    case atStart => exact ⟨2, by omega, by omega, rfl, fun j h1 h2 => by omega⟩
    case round =>
      obtain ⟨k, hk, hk4, rfl, hb⟩ := hrel
      have HB : Hid (∀ j, 2 ≤ j → j < k → 128 ≤ bt s (i + j) ∧ bt s (i + j) ≤ 191) := hb
      clear hb
      go_wp2
      · go_ret
        have hq := Q.out k (by omega)
        have hkk : k = 2 ∨ k = 3 := by omega
        exact ⟨ret_int (by unfold wd; rw [lwOne (by have := Q0.out; rcases hkk with rfl | rfl <;> omega)]; rfl), rfl⟩
      · have hq := Q.out k (by omega)
        go_round
        case rel =>
          refine ⟨k + 1, by omega, by omega, by go_num, fun j h1 h2 => ?_⟩
          by_cases hj : j = k
          · subst hj; omega
          · exact HB.out j h1 (by omega)
        case measure => simp [intOf]; omega
      · go_ret
        have hq := Q.out k (by omega)
        have hkk : k = 2 ∨ k = 3 := by omega
        exact ⟨ret_int (by unfold wd; rw [lwOne (by have := Q0.out; rcases hkk with rfl | rfl <;> omega)]; rfl), rfl⟩
      · go_ret
        exact ⟨ret_int (by unfold wd; rw [lwThree (by have := Q0.out; have := Q.out 1 (by omega); have := HB.out 2 (by omega) (by omega); omega)]; rfl), rfl⟩
  · go_ret
    exact ⟨ret_int (by unfold wd; rw [lwOne (by have := Q0.out; have := Q.out 1 (by omega); omega)]; rfl), rfl⟩

set_option maxRecDepth 100000 in
set_option maxHeartbeats 1000000 in
theorem width_H (s : ByteArray) (i : Nat) (w : World) (hi : i < s.size) (_hs : s.size ≤ 1048576) (hlo : (239 : Int) ≤ s[i].toNat) (hhi : (s[i].toNat : Int) ≤ 239) :
    Calls Try.prog 14 #[.string s, .int .i64 i] w fun e w' => e = .returned (.int .i64 (wd s i)) ∧ w' = w := by
  have Q0 : Hid (bt s i = s[i].toNat) := bt_eq s i hi
  have Q : Hid (∀ k, ∀ h : i + k < s.size, bt s (i + k) = s[i + k].toNat) := fun k => bt_eq s (i + k)
  have e224 : ((s[i].toNat : Int) == 224) = false := by rw [beq_eq_false_iff_ne]; omega
  have e237 : ((s[i].toNat : Int) == 237) = false := by rw [beq_eq_false_iff_ne]; omega
  have e238 : ((s[i].toNat : Int) == 238) = false := by rw [beq_eq_false_iff_ne]; omega
  have e239 : ((s[i].toNat : Int) == 239) = true := by rw [beq_iff_eq]; omega
  have e240 : ((s[i].toNat : Int) == 240) = false := by rw [beq_eq_false_iff_ne]; omega
  have e244 : ((s[i].toNat : Int) == 244) = false := by rw [beq_eq_false_iff_ne]; omega
  go_enter Try.func14, Try.ntmps14
  go_wp2
  · go_ret
    exact ⟨ret_int (by unfold wd; rw [lwOne (by have := Q0.out; omega)]; rfl), rfl⟩
  · go_ret
    exact ⟨ret_int (by unfold wd; rw [lwOne (by have := Q0.out; have := Q.out 1 (by omega); omega)]; rfl), rfl⟩
  · go_loop [9] (fun t => ∃ k : Nat, 2 ≤ k ∧ k ≤ 4 ∧ t = .int .i64 k ∧ ∀ j, 2 ≤ j → j < k → 128 ≤ bt s (i + j) ∧ bt s (i + j) ≤ 191) (fun t => 4 - (intOf t).toNat)
    case atStart => exact ⟨2, by omega, by omega, rfl, fun j h1 h2 => by omega⟩
    case round =>
      obtain ⟨k, hk, hk4, rfl, hb⟩ := hrel
      have HB : Hid (∀ j, 2 ≤ j → j < k → 128 ≤ bt s (i + j) ∧ bt s (i + j) ≤ 191) := hb
      clear hb
      go_wp2
      · go_ret
        have hq := Q.out k (by omega)
        have hkk : k = 2 ∨ k = 3 := by omega
        exact ⟨ret_int (by unfold wd; rw [lwOne (by have := Q0.out; rcases hkk with rfl | rfl <;> omega)]; rfl), rfl⟩
      · have hq := Q.out k (by omega)
        go_round
        case rel =>
          refine ⟨k + 1, by omega, by omega, by go_num, fun j h1 h2 => ?_⟩
          by_cases hj : j = k
          · subst hj; omega
          · exact HB.out j h1 (by omega)
        case measure => simp [intOf]; omega
      · go_ret
        have hq := Q.out k (by omega)
        have hkk : k = 2 ∨ k = 3 := by omega
        exact ⟨ret_int (by unfold wd; rw [lwOne (by have := Q0.out; rcases hkk with rfl | rfl <;> omega)]; rfl), rfl⟩
      · go_ret
        exact ⟨ret_int (by unfold wd; rw [lwThree (by have := Q0.out; have := Q.out 1 (by omega); have := HB.out 2 (by omega) (by omega); omega)]; rfl), rfl⟩
  · go_ret
    exact ⟨ret_int (by unfold wd; rw [lwOne (by have := Q0.out; have := Q.out 1 (by omega); omega)]; rfl), rfl⟩

set_option maxRecDepth 100000 in
set_option maxHeartbeats 1000000 in
theorem width_I (s : ByteArray) (i : Nat) (w : World) (hi : i < s.size) (_hs : s.size ≤ 1048576) (hlo : (240 : Int) ≤ s[i].toNat) (hhi : (s[i].toNat : Int) ≤ 240) :
    Calls Try.prog 14 #[.string s, .int .i64 i] w fun e w' => e = .returned (.int .i64 (wd s i)) ∧ w' = w := by
  have Q0 : Hid (bt s i = s[i].toNat) := bt_eq s i hi
  have Q : Hid (∀ k, ∀ h : i + k < s.size, bt s (i + k) = s[i + k].toNat) := fun k => bt_eq s (i + k)
  have e224 : ((s[i].toNat : Int) == 224) = false := by rw [beq_eq_false_iff_ne]; omega
  have e237 : ((s[i].toNat : Int) == 237) = false := by rw [beq_eq_false_iff_ne]; omega
  have e238 : ((s[i].toNat : Int) == 238) = false := by rw [beq_eq_false_iff_ne]; omega
  have e239 : ((s[i].toNat : Int) == 239) = false := by rw [beq_eq_false_iff_ne]; omega
  have e240 : ((s[i].toNat : Int) == 240) = true := by rw [beq_iff_eq]; omega
  have e244 : ((s[i].toNat : Int) == 244) = false := by rw [beq_eq_false_iff_ne]; omega
  go_enter Try.func14, Try.ntmps14
  go_wp2
  · go_ret
    exact ⟨ret_int (by unfold wd; rw [lwOne (by have := Q0.out; omega)]; rfl), rfl⟩
  · go_ret
    exact ⟨ret_int (by unfold wd; rw [lwOne (by have := Q0.out; have := Q.out 1 (by omega); omega)]; rfl), rfl⟩
  · go_loop [9] (fun t => ∃ k : Nat, 2 ≤ k ∧ k ≤ 4 ∧ t = .int .i64 k ∧ ∀ j, 2 ≤ j → j < k → 128 ≤ bt s (i + j) ∧ bt s (i + j) ≤ 191) (fun t => 4 - (intOf t).toNat)
    case atStart => exact ⟨2, by omega, by omega, rfl, fun j h1 h2 => by omega⟩
    case round =>
      obtain ⟨k, hk, hk4, rfl, hb⟩ := hrel
      have HB : Hid (∀ j, 2 ≤ j → j < k → 128 ≤ bt s (i + j) ∧ bt s (i + j) ≤ 191) := hb
      clear hb
      go_wp2
      · go_ret
        have hq := Q.out k (by omega)
        have hkk : k = 2 ∨ k = 3 := by omega
        exact ⟨ret_int (by unfold wd; rw [lwOne (by have := Q0.out; rcases hkk with rfl | rfl <;> omega)]; rfl), rfl⟩
      · have hq := Q.out k (by omega)
        go_round
        case rel =>
          refine ⟨k + 1, by omega, by omega, by go_num, fun j h1 h2 => ?_⟩
          by_cases hj : j = k
          · subst hj; omega
          · exact HB.out j h1 (by omega)
        case measure => simp [intOf]; omega
      · go_ret
        have hq := Q.out k (by omega)
        have hkk : k = 2 ∨ k = 3 := by omega
        exact ⟨ret_int (by unfold wd; rw [lwOne (by have := Q0.out; rcases hkk with rfl | rfl <;> omega)]; rfl), rfl⟩
      · go_ret
        exact ⟨ret_int (by unfold wd; rw [lwFour (by have := Q0.out; have := Q.out 1 (by omega); have := HB.out 2 (by omega) (by omega); have := HB.out 3 (by omega) (by omega); omega)]; rfl), rfl⟩
  · go_ret
    exact ⟨ret_int (by unfold wd; rw [lwOne (by have := Q0.out; have := Q.out 1 (by omega); omega)]; rfl), rfl⟩

set_option maxRecDepth 100000 in
set_option maxHeartbeats 1000000 in
theorem width_J (s : ByteArray) (i : Nat) (w : World) (hi : i < s.size) (_hs : s.size ≤ 1048576) (hlo : (241 : Int) ≤ s[i].toNat) (hhi : (s[i].toNat : Int) ≤ 243) :
    Calls Try.prog 14 #[.string s, .int .i64 i] w fun e w' => e = .returned (.int .i64 (wd s i)) ∧ w' = w := by
  have Q0 : Hid (bt s i = s[i].toNat) := bt_eq s i hi
  have Q : Hid (∀ k, ∀ h : i + k < s.size, bt s (i + k) = s[i + k].toNat) := fun k => bt_eq s (i + k)
  have e224 : ((s[i].toNat : Int) == 224) = false := by rw [beq_eq_false_iff_ne]; omega
  have e237 : ((s[i].toNat : Int) == 237) = false := by rw [beq_eq_false_iff_ne]; omega
  have e238 : ((s[i].toNat : Int) == 238) = false := by rw [beq_eq_false_iff_ne]; omega
  have e239 : ((s[i].toNat : Int) == 239) = false := by rw [beq_eq_false_iff_ne]; omega
  have e240 : ((s[i].toNat : Int) == 240) = false := by rw [beq_eq_false_iff_ne]; omega
  have e244 : ((s[i].toNat : Int) == 244) = false := by rw [beq_eq_false_iff_ne]; omega
  go_enter Try.func14, Try.ntmps14
  go_wp2
  · go_ret
    exact ⟨ret_int (by unfold wd; rw [lwOne (by have := Q0.out; omega)]; rfl), rfl⟩
  · go_ret
    exact ⟨ret_int (by unfold wd; rw [lwOne (by have := Q0.out; have := Q.out 1 (by omega); omega)]; rfl), rfl⟩
  · go_loop [9] (fun t => ∃ k : Nat, 2 ≤ k ∧ k ≤ 4 ∧ t = .int .i64 k ∧ ∀ j, 2 ≤ j → j < k → 128 ≤ bt s (i + j) ∧ bt s (i + j) ≤ 191) (fun t => 4 - (intOf t).toNat)
    case atStart => exact ⟨2, by omega, by omega, rfl, fun j h1 h2 => by omega⟩
    case round =>
      obtain ⟨k, hk, hk4, rfl, hb⟩ := hrel
      have HB : Hid (∀ j, 2 ≤ j → j < k → 128 ≤ bt s (i + j) ∧ bt s (i + j) ≤ 191) := hb
      clear hb
      go_wp2
      · go_ret
        have hq := Q.out k (by omega)
        have hkk : k = 2 ∨ k = 3 := by omega
        exact ⟨ret_int (by unfold wd; rw [lwOne (by have := Q0.out; rcases hkk with rfl | rfl <;> omega)]; rfl), rfl⟩
      · have hq := Q.out k (by omega)
        go_round
        case rel =>
          refine ⟨k + 1, by omega, by omega, by go_num, fun j h1 h2 => ?_⟩
          by_cases hj : j = k
          · subst hj; omega
          · exact HB.out j h1 (by omega)
        case measure => simp [intOf]; omega
      · go_ret
        have hq := Q.out k (by omega)
        have hkk : k = 2 ∨ k = 3 := by omega
        exact ⟨ret_int (by unfold wd; rw [lwOne (by have := Q0.out; rcases hkk with rfl | rfl <;> omega)]; rfl), rfl⟩
      · go_ret
        exact ⟨ret_int (by unfold wd; rw [lwFour (by have := Q0.out; have := Q.out 1 (by omega); have := HB.out 2 (by omega) (by omega); have := HB.out 3 (by omega) (by omega); omega)]; rfl), rfl⟩
  · go_ret
    exact ⟨ret_int (by unfold wd; rw [lwOne (by have := Q0.out; have := Q.out 1 (by omega); omega)]; rfl), rfl⟩

set_option maxRecDepth 100000 in
set_option maxHeartbeats 1000000 in
theorem width_K (s : ByteArray) (i : Nat) (w : World) (hi : i < s.size) (_hs : s.size ≤ 1048576) (hlo : (244 : Int) ≤ s[i].toNat) (hhi : (s[i].toNat : Int) ≤ 244) :
    Calls Try.prog 14 #[.string s, .int .i64 i] w fun e w' => e = .returned (.int .i64 (wd s i)) ∧ w' = w := by
  have Q0 : Hid (bt s i = s[i].toNat) := bt_eq s i hi
  have Q : Hid (∀ k, ∀ h : i + k < s.size, bt s (i + k) = s[i + k].toNat) := fun k => bt_eq s (i + k)
  have e224 : ((s[i].toNat : Int) == 224) = false := by rw [beq_eq_false_iff_ne]; omega
  have e237 : ((s[i].toNat : Int) == 237) = false := by rw [beq_eq_false_iff_ne]; omega
  have e238 : ((s[i].toNat : Int) == 238) = false := by rw [beq_eq_false_iff_ne]; omega
  have e239 : ((s[i].toNat : Int) == 239) = false := by rw [beq_eq_false_iff_ne]; omega
  have e240 : ((s[i].toNat : Int) == 240) = false := by rw [beq_eq_false_iff_ne]; omega
  have e244 : ((s[i].toNat : Int) == 244) = true := by rw [beq_iff_eq]; omega
  go_enter Try.func14, Try.ntmps14
  go_wp2
  · go_ret
    exact ⟨ret_int (by unfold wd; rw [lwOne (by have := Q0.out; omega)]; rfl), rfl⟩
  · go_ret
    exact ⟨ret_int (by unfold wd; rw [lwOne (by have := Q0.out; have := Q.out 1 (by omega); omega)]; rfl), rfl⟩
  · go_loop [9] (fun t => ∃ k : Nat, 2 ≤ k ∧ k ≤ 4 ∧ t = .int .i64 k ∧ ∀ j, 2 ≤ j → j < k → 128 ≤ bt s (i + j) ∧ bt s (i + j) ≤ 191) (fun t => 4 - (intOf t).toNat)
    case atStart => exact ⟨2, by omega, by omega, rfl, fun j h1 h2 => by omega⟩
    case round =>
      obtain ⟨k, hk, hk4, rfl, hb⟩ := hrel
      have HB : Hid (∀ j, 2 ≤ j → j < k → 128 ≤ bt s (i + j) ∧ bt s (i + j) ≤ 191) := hb
      clear hb
      go_wp2
      · go_ret
        have hq := Q.out k (by omega)
        have hkk : k = 2 ∨ k = 3 := by omega
        exact ⟨ret_int (by unfold wd; rw [lwOne (by have := Q0.out; rcases hkk with rfl | rfl <;> omega)]; rfl), rfl⟩
      · have hq := Q.out k (by omega)
        go_round
        case rel =>
          refine ⟨k + 1, by omega, by omega, by go_num, fun j h1 h2 => ?_⟩
          by_cases hj : j = k
          · subst hj; omega
          · exact HB.out j h1 (by omega)
        case measure => simp [intOf]; omega
      · go_ret
        have hq := Q.out k (by omega)
        have hkk : k = 2 ∨ k = 3 := by omega
        exact ⟨ret_int (by unfold wd; rw [lwOne (by have := Q0.out; rcases hkk with rfl | rfl <;> omega)]; rfl), rfl⟩
      · go_ret
        exact ⟨ret_int (by unfold wd; rw [lwFour (by have := Q0.out; have := Q.out 1 (by omega); have := HB.out 2 (by omega) (by omega); have := HB.out 3 (by omega) (by omega); omega)]; rfl), rfl⟩
  · go_ret
    exact ⟨ret_int (by unfold wd; rw [lwOne (by have := Q0.out; have := Q.out 1 (by omega); omega)]; rfl), rfl⟩

set_option maxRecDepth 100000 in
set_option maxHeartbeats 1000000 in
theorem width_L (s : ByteArray) (i : Nat) (w : World) (hi : i < s.size) (_hs : s.size ≤ 1048576) (hlo : (245 : Int) ≤ s[i].toNat) (hhi : (s[i].toNat : Int) ≤ 255) :
    Calls Try.prog 14 #[.string s, .int .i64 i] w fun e w' => e = .returned (.int .i64 (wd s i)) ∧ w' = w := by
  have Q0 : Hid (bt s i = s[i].toNat) := bt_eq s i hi
  have Q : Hid (∀ k, ∀ h : i + k < s.size, bt s (i + k) = s[i + k].toNat) := fun k => bt_eq s (i + k)
  have e224 : ((s[i].toNat : Int) == 224) = false := by rw [beq_eq_false_iff_ne]; omega
  have e237 : ((s[i].toNat : Int) == 237) = false := by rw [beq_eq_false_iff_ne]; omega
  have e238 : ((s[i].toNat : Int) == 238) = false := by rw [beq_eq_false_iff_ne]; omega
  have e239 : ((s[i].toNat : Int) == 239) = false := by rw [beq_eq_false_iff_ne]; omega
  have e240 : ((s[i].toNat : Int) == 240) = false := by rw [beq_eq_false_iff_ne]; omega
  have e244 : ((s[i].toNat : Int) == 244) = false := by rw [beq_eq_false_iff_ne]; omega
  go_enter Try.func14, Try.ntmps14
  go_wp2
  go_ret
  exact ⟨ret_int (by unfold wd; rw [lwOne (by have := Q0.out; omega)]; rfl), rfl⟩

/-- lawWidth(s, i), i a place in s: the width of the character there. -/
theorem width_any (s : ByteArray) (i : Nat) (w : World) (hi : i < s.size) (hs : s.size ≤ 1048576) :
    Calls Try.prog 14 #[.string s, .int .i64 i] w fun e w' => e = .returned (.int .i64 (wd s i)) ∧ w' = w := by
  have hb : (s[i].toNat : Int) < 256 := by have := (s[i]).toNat_lt; omega
  by_cases hA : (s[i].toNat : Int) ≤ 127
  · exact width_A s i w hi hs (by omega) hA
  by_cases hB : (s[i].toNat : Int) ≤ 193
  · exact width_B s i w hi hs (by omega) hB
  by_cases hC : (s[i].toNat : Int) ≤ 223
  · exact width_C s i w hi hs (by omega) hC
  by_cases hD : (s[i].toNat : Int) ≤ 224
  · exact width_D s i w hi hs (by omega) hD
  by_cases hE : (s[i].toNat : Int) ≤ 236
  · exact width_E s i w hi hs (by omega) hE
  by_cases hF : (s[i].toNat : Int) ≤ 237
  · exact width_F s i w hi hs (by omega) hF
  by_cases hG : (s[i].toNat : Int) ≤ 238
  · exact width_G s i w hi hs (by omega) hG
  by_cases hH : (s[i].toNat : Int) ≤ 239
  · exact width_H s i w hi hs (by omega) hH
  by_cases hI : (s[i].toNat : Int) ≤ 240
  · exact width_I s i w hi hs (by omega) hI
  by_cases hJ : (s[i].toNat : Int) ≤ 243
  · exact width_J s i w hi hs (by omega) hJ
  by_cases hK : (s[i].toNat : Int) ≤ 244
  · exact width_K s i w hi hs (by omega) hK
  exact width_L s i w hi hs (by omega) (by omega)
end Go.Proofs.Qxb6616464a
