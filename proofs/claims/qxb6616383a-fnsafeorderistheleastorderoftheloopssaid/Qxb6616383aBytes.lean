/-
  The walks of the bounds on the bytes: zzBytes of both laws, zzb1Bytes.
-/
import Derived.Test.Qxb6616383aLaws
namespace Go.Proofs.Qxb6616383a
open Go.RowKit
open Plain
/-- Some bool comes back. -/
def IsB (e : Ending) : Prop := ∃ b, e = .returned (.bool b)
theorem IsB.mk (b : Bool) : IsB (.returned (.bool b)) := ⟨b, rfl⟩
/-- Some int comes back. -/
def IsI (e : Ending) : Prop := ∃ z, e = .returned (.int .i64 z)
theorem IsI.mk (z : Int) : IsI (.returned (.int .i64 z)) := ⟨z, rfl⟩

set_option maxRecDepth 100000 in
set_option maxHeartbeats 4000000 in
theorem zz10_any (w : World) (aa ab ak : Option Addr) (la ca lb cb lk ck : Nat) (fa fb : Nat → ByteArray) (ha : SArg w aa la ca (sv fa)) (hb : SArg w ab lb cb (sv fb)) :
    Calls Try.prog 10 #[.slice aa la ca, .slice ab lb cb, .slice ak lk ck] w fun e w' => IsB e ∧ w' = w := by
  have HA : Hid (SArg w aa la ca (sv fa)) := ha
  have HB : Hid (SArg w ab lb cb (sv fb)) := hb
  clear ha hb
  go_enter Try.func10, Try.ntmps10
  by_cases h1 : 1048576 < la
  · go_wp2
    go_ret
    exact ⟨IsB.mk _, rfl⟩
  go_wp2
  go_loop [7, 8] (fun t i => ∃ k z : Nat, k ≤ la ∧ z ≤ 1048576 ∧ i = .int .i64 k ∧ t = .int .i64 z) (fun _ i => la - (intOf i).toNat)
  case atStart => exact ⟨0, la, by omega, by omega, rfl, rfl⟩
  case round =>
    obtain ⟨k, z, hk, hz, rfl, rfl⟩ := hrel
    by_cases hlt : k < la
    · obtain ⟨b, o, rfl, hc⟩ := HA.out.at_ (by omega)
      have c1 := hc k hlt
      rw [show sv fa k = .string (fa k) from rfl] at c1
      clear hc
      by_cases h2 : 1048576 < (fa k).size
      · go_wp2
        go_ret
        exact ⟨IsB.mk _, rfl⟩
      by_cases h3 : 1048576 < z + (fa k).size
      · go_wp2
        go_ret
        exact ⟨IsB.mk _, rfl⟩
      go_wp2
      go_round
      case rel => exact ⟨k + 1, z + (fa k).size, by omega, by omega, by go_num, by go_num⟩
      case measure => simp [intOf]; omega
    · by_cases h4 : 1048576 < lb
      · go_wp2
        go_ret
        exact ⟨IsB.mk _, rfl⟩
      by_cases h5 : 1048576 < z + lb
      · go_wp2
        go_ret
        exact ⟨IsB.mk _, rfl⟩
      go_wp2
      go_loop [7, 9] (fun t i => ∃ k z : Nat, k ≤ lb ∧ z ≤ 1048576 ∧ i = .int .i64 k ∧ t = .int .i64 z) (fun _ i => lb - (intOf i).toNat)
      case atStart => exact ⟨0, z + lb, by omega, by omega, rfl, by go_num⟩
      case round =>
        obtain ⟨k, z, hk, hz, rfl, rfl⟩ := hrel
        by_cases hlt : k < lb
        · obtain ⟨b, o, rfl, hc⟩ := HB.out.at_ (by omega)
          have c1 := hc k hlt
          rw [show sv fb k = .string (fb k) from rfl] at c1
          clear hc
          by_cases h2 : 1048576 < (fb k).size
          · go_wp2
            go_ret
            exact ⟨IsB.mk _, rfl⟩
          by_cases h3 : 1048576 < z + (fb k).size
          · go_wp2
            go_ret
            exact ⟨IsB.mk _, rfl⟩
          go_wp2
          go_round
          case rel => exact ⟨k + 1, z + (fb k).size, by omega, by omega, by go_num, by go_num⟩
          case measure => simp [intOf]; omega
        · by_cases h6 : 1048576 < lk
          · go_wp2
            go_ret
            exact ⟨IsB.mk _, rfl⟩
          by_cases h7 : 1048576 < z + lk
          · go_wp2
            go_ret
            exact ⟨IsB.mk _, rfl⟩
          go_wp2
          go_ret
          exact ⟨IsB.mk _, rfl⟩

set_option maxRecDepth 100000 in
set_option maxHeartbeats 4000000 in
theorem zz5_any (w : World) (aa ab ak : Option Addr) (la ca lb cb lk ck : Nat) (fa fb : Nat → ByteArray) (ha : SArg w aa la ca (sv fa)) (hb : SArg w ab lb cb (sv fb)) :
    Calls Try.prog 5 #[.slice aa la ca, .slice ab lb cb, .slice ak lk ck] w fun e w' => IsB e ∧ w' = w := by
  have HA : Hid (SArg w aa la ca (sv fa)) := ha
  have HB : Hid (SArg w ab lb cb (sv fb)) := hb
  clear ha hb
  go_enter Try.func5, Try.ntmps5
  by_cases h1 : 1048576 < la
  · go_wp2
    go_ret
    exact ⟨IsB.mk _, rfl⟩
  go_wp2
  go_loop [7, 8] (fun t i => ∃ k z : Nat, k ≤ la ∧ z ≤ 1048576 ∧ i = .int .i64 k ∧ t = .int .i64 z) (fun _ i => la - (intOf i).toNat)
  case atStart => exact ⟨0, la, by omega, by omega, rfl, rfl⟩
  case round =>
    obtain ⟨k, z, hk, hz, rfl, rfl⟩ := hrel
    by_cases hlt : k < la
    · obtain ⟨b, o, rfl, hc⟩ := HA.out.at_ (by omega)
      have c1 := hc k hlt
      rw [show sv fa k = .string (fa k) from rfl] at c1
      clear hc
      by_cases h2 : 1048576 < (fa k).size
      · go_wp2
        go_ret
        exact ⟨IsB.mk _, rfl⟩
      by_cases h3 : 1048576 < z + (fa k).size
      · go_wp2
        go_ret
        exact ⟨IsB.mk _, rfl⟩
      go_wp2
      go_round
      case rel => exact ⟨k + 1, z + (fa k).size, by omega, by omega, by go_num, by go_num⟩
      case measure => simp [intOf]; omega
    · by_cases h4 : 1048576 < lb
      · go_wp2
        go_ret
        exact ⟨IsB.mk _, rfl⟩
      by_cases h5 : 1048576 < z + lb
      · go_wp2
        go_ret
        exact ⟨IsB.mk _, rfl⟩
      go_wp2
      go_loop [7, 9] (fun t i => ∃ k z : Nat, k ≤ lb ∧ z ≤ 1048576 ∧ i = .int .i64 k ∧ t = .int .i64 z) (fun _ i => lb - (intOf i).toNat)
      case atStart => exact ⟨0, z + lb, by omega, by omega, rfl, by go_num⟩
      case round =>
        obtain ⟨k, z, hk, hz, rfl, rfl⟩ := hrel
        by_cases hlt : k < lb
        · obtain ⟨b, o, rfl, hc⟩ := HB.out.at_ (by omega)
          have c1 := hc k hlt
          rw [show sv fb k = .string (fb k) from rfl] at c1
          clear hc
          by_cases h2 : 1048576 < (fb k).size
          · go_wp2
            go_ret
            exact ⟨IsB.mk _, rfl⟩
          by_cases h3 : 1048576 < z + (fb k).size
          · go_wp2
            go_ret
            exact ⟨IsB.mk _, rfl⟩
          go_wp2
          go_round
          case rel => exact ⟨k + 1, z + (fb k).size, by omega, by omega, by go_num, by go_num⟩
          case measure => simp [intOf]; omega
        · by_cases h6 : 1048576 < lk
          · go_wp2
            go_ret
            exact ⟨IsB.mk _, rfl⟩
          by_cases h7 : 1048576 < z + lk
          · go_wp2
            go_ret
            exact ⟨IsB.mk _, rfl⟩
          go_wp2
          go_ret
          exact ⟨IsB.mk _, rfl⟩

set_option maxRecDepth 100000 in
set_option maxHeartbeats 4000000 in
theorem bytes_any (w : World) (aa ab : Option Addr) (la ca lb cb x : Nat) (fa fb : Nat → ByteArray) (ha : SArg w aa la ca (sv fa)) (hb : SArg w ab lb cb (sv fb))
    (hla : la ≤ 4096) (hlb : lb ≤ 4096) (hx : x ≤ 1048576) :
    Calls Try.prog 6 #[.slice aa la ca, .slice ab lb cb, .int .i64 (x : Nat)] w fun e w' => IsI e ∧ w' = w := by
  have HA : Hid (SArg w aa la ca (sv fa)) := ha
  have HB : Hid (SArg w ab lb cb (sv fb)) := hb
  clear ha hb
  go_enter Try.func6, Try.ntmps6
  go_wp2
  go_loop [7, 8] (fun t i => ∃ (k : Nat) (z : Int), k ≤ la ∧ i = .int .i64 k ∧ t = .int .i64 z) (fun _ i => la - (intOf i).toNat)
  case atStart => exact ⟨0, _, by omega, rfl, rfl⟩
  case round =>
    obtain ⟨k, z, hk, rfl, rfl⟩ := hrel
    by_cases hlt : k < la
    · by_cases hzz : z ≤ 1048576
      · obtain ⟨b, o, rfl, hc⟩ := HA.out.at_ (by omega)
        have c1 := hc k hlt
        rw [show sv fa k = .string (fa k) from rfl] at c1
        clear hc
        go_wp2
        go_round
        case rel => exact ⟨k + 1, _, by omega, by go_num, rfl⟩
        case measure => simp [intOf]; omega
      · go_wp2
        go_loop [7, 9] (fun t i => ∃ (k : Nat) (z : Int), k ≤ lb ∧ i = .int .i64 k ∧ t = .int .i64 z) (fun _ i => lb - (intOf i).toNat)
        case atStart => exact ⟨0, _, by omega, rfl, rfl⟩
        case round =>
          obtain ⟨k, z, hk, rfl, rfl⟩ := hrel
          by_cases hlt : k < lb
          · by_cases hzz : z ≤ 1048576
            · obtain ⟨b, o, rfl, hc⟩ := HB.out.at_ (by omega)
              have c1 := hc k hlt
              rw [show sv fb k = .string (fb k) from rfl] at c1
              clear hc
              go_wp2
              go_round
              case rel => exact ⟨k + 1, _, by omega, by go_num, rfl⟩
              case measure => simp [intOf]; omega
            · go_wp2
              go_ret
              exact ⟨IsI.mk _, rfl⟩
          · go_wp2
            go_ret
            exact ⟨IsI.mk _, rfl⟩
    · go_wp2
      go_loop [7, 9] (fun t i => ∃ (k : Nat) (z : Int), k ≤ lb ∧ i = .int .i64 k ∧ t = .int .i64 z) (fun _ i => lb - (intOf i).toNat)
      case atStart => exact ⟨0, _, by omega, rfl, rfl⟩
      case round =>
        obtain ⟨k, z, hk, rfl, rfl⟩ := hrel
        by_cases hlt : k < lb
        · by_cases hzz : z ≤ 1048576
          · obtain ⟨b, o, rfl, hc⟩ := HB.out.at_ (by omega)
            have c1 := hc k hlt
            rw [show sv fb k = .string (fb k) from rfl] at c1
            clear hc
            go_wp2
            go_round
            case rel => exact ⟨k + 1, _, by omega, by go_num, rfl⟩
            case measure => simp [intOf]; omega
          · go_wp2
            go_ret
            exact ⟨IsI.mk _, rfl⟩
        · go_wp2
          go_ret
          exact ⟨IsI.mk _, rfl⟩
end Go.Proofs.Qxb6616383a
