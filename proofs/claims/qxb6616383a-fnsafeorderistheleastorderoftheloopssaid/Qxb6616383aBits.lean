/-
  Bit sets in rows of words (plain), and the walk of zzb1Has.
-/
import Derived.Test.Qxb6616383aNames
import Derived.Test.Qxb6616383aBytes
import Derived.Test.Qxb6616383aCover
import Derived.Deep.RegionHeld3
import Derived.Deep.LoopGhost
import Derived.Deep.OwnRows
namespace Go.Proofs.Qxb6616383a
open Go.RowKit
open Plain
theorem wrap_word (x : Nat) (h : x < 2 ^ 64) : IntKind.u64.wrap (x : Int) = (x : Int) := by
  rw [IntKind.wrap]
  have e : ((x : Int) % 2 ^ IntKind.u64.bits) = (x : Int) := Int.emod_eq_of_lt (by omega) (by show (x : Int) < 2 ^ 64; omega)
  simp only [e]
  rw [if_neg (by simp [IntKind.signed])]
theorem wrap_pow (k : Nat) (hk : k < 64) : IntKind.u64.wrap (2 ^ k) = ((2 ^ k : Nat) : Int) := by
  have := wrap_word (2 ^ k) (Nat.pow_lt_pow_right (by omega) hk)
  rw [← this]
  congr 1
theorem bits_and_word (a b : Nat) (ha : a < 2 ^ 64) (hb : b < 2 ^ 64) : bits .and .u64 (a : Int) (b : Int) = ((a &&& b : Nat) : Int) := by
  have e : ((BitVec.ofInt IntKind.u64.bits (a : Int)) &&& (BitVec.ofInt IntKind.u64.bits (b : Int))).toNat = a &&& b := by
    rw [BitVec.toNat_and]
    simp only [BitVec.ofInt_natCast, BitVec.toNat_ofNat]
    rw [show IntKind.u64.bits = 64 from rfl, Nat.mod_eq_of_lt ha, Nat.mod_eq_of_lt hb]
  unfold bits
  simp only [e]
  exact wrap_word _ (Nat.lt_of_le_of_lt Nat.and_le_left ha)
theorem bits_or_word (a b : Nat) (ha : a < 2 ^ 64) (hb : b < 2 ^ 64) : bits .or .u64 (a : Int) (b : Int) = ((a ||| b : Nat) : Int) := by
  have e : ((BitVec.ofInt IntKind.u64.bits (a : Int)) ||| (BitVec.ofInt IntKind.u64.bits (b : Int))).toNat = a ||| b := by
    rw [BitVec.toNat_or]
    simp only [BitVec.ofInt_natCast, BitVec.toNat_ofNat]
    rw [show IntKind.u64.bits = 64 from rfl, Nat.mod_eq_of_lt ha, Nat.mod_eq_of_lt hb]
  unfold bits
  simp only [e]
  exact wrap_word _ (Nat.or_lt_two_pow ha hb)
theorem and_pow (a k : Nat) : a &&& 2 ^ k = if a.testBit k then 2 ^ k else 0 := by
  apply Nat.eq_of_testBit_eq
  intro i
  rw [Nat.testBit_and, Nat.testBit_two_pow]
  by_cases e : k = i
  · subst e
    cases h : a.testBit k with
    | false => simp
    | true => simp
  · cases h : a.testBit k with
    | false => simp [e]
    | true => simp [e]
theorem has_bit (a k : Nat) (ha : a < 2 ^ 64) (hk : k < 64) : (bits .and .u64 (a : Int) (IntKind.u64.wrap (2 ^ k)) != 0) = a.testBit k := by
  rw [wrap_pow k hk, bits_and_word a _ ha (Nat.pow_lt_pow_right (by omega) hk), and_pow]
  cases a.testBit k with
  | false => simp
  | true =>
    rw [if_pos rfl, bne_iff_ne]
    have := Nat.two_pow_pos k
    omega
theorem set_bit (a k : Nat) (ha : a < 2 ^ 64) (hk : k < 64) : bits .or .u64 (a : Int) (IntKind.u64.wrap (2 ^ k)) = ((a ||| 2 ^ k : Nat) : Int) := by
  rw [wrap_pow k hk, bits_or_word a _ ha (Nat.pow_lt_pow_right (by omega) hk)]
/-- The words of the rows S 0, S 1, .. of n bits, d words a row. -/
structure WI (n d : Nat) (W : Nat → Nat) (S : Nat → Nat → Bool) : Prop where
  lt : ∀ c, W c < 2 ^ 64
  bit : ∀ u v, u < n → v < n → (W (u * d + v / 64)).testBit (v % 64) = S u v
theorem WI.zero (n d : Nat) : WI n d (fun _ => 0) (fun _ _ => false) := ⟨fun _ => by omega, fun u v _ _ => by simp⟩
theorem place {d u u' a a' : Nat} (ha : a < d) (ha' : a' < d) (e : u * d + a = u' * d + a') : u = u' ∧ a = a' := by
  have h1 : (u * d + a) / d = u := by rw [Nat.mul_comm, Nat.mul_add_div (by omega), Nat.div_eq_of_lt ha]; omega
  have h2 : (u' * d + a') / d = u' := by rw [Nat.mul_comm, Nat.mul_add_div (by omega), Nat.div_eq_of_lt ha']; omega
  have h3 : u = u' := by rw [← h1, e, h2]
  subst h3
  exact ⟨rfl, by omega⟩
def put2 (S : Nat → Nat → Bool) (u x : Nat) : Nat → Nat → Bool := fun u' v => if u' = u ∧ v = x then true else S u' v
theorem WI.set {n d : Nat} {W : Nat → Nat} {S : Nat → Nat → Bool} (h : WI n d W S) (hd : n ≤ d * 64) {u x : Nat} (hx : x < n) : WI n d (upd W (u * d + x / 64) (W (u * d + x / 64) ||| 2 ^ (x % 64))) (put2 S u x) := by
  have hxd : ∀ v, v < n → v / 64 < d := fun v hv => by omega
  refine ⟨fun c => ?_, fun u' v hu' hv => ?_⟩
  · simp only [upd]
    split
    · exact Nat.or_lt_two_pow (h.lt _) (Nat.pow_lt_pow_right (by omega) (by omega))
    · exact h.lt c
  · simp only [upd, put2]
    by_cases e : u' * d + v / 64 = u * d + x / 64
    · obtain ⟨e1, e2⟩ := place (hxd v hv) (hxd x hx) e
      rw [if_pos e, Nat.testBit_or, Nat.testBit_two_pow, ← e, h.bit u' v hu' hv]
      by_cases e3 : v = x
      · simp [e1, e3]
      · have : ¬ x % 64 = v % 64 := by omega
        simp [e3, this]
    · rw [if_neg e, h.bit u' v hu' hv, if_neg]
      rintro ⟨rfl, rfl⟩
      exact e rfl
theorem cell_lt {n d u v : Nat} (hu : u < n) (hv : v / 64 < d) : u * d + v / 64 < n * d := by
  have h1 : (u + 1) * d ≤ n * d := Nat.mul_le_mul_right d hu
  rw [Nat.add_mul] at h1
  omega
def wv (W : Nat → Nat) : Nat → Value := fun i => .int .u64 (W i : Nat)
theorem upd_wv (W : Nat → Nat) (i x : Nat) : upd (wv W) i (.int .u64 (x : Nat)) = wv (upd W i x) := by funext k; simp only [upd, wv]; split <;> rfl
set_option maxRecDepth 100000 in
set_option maxHeartbeats 4000000 in
theorem has_any (w : World) (R n d u v : Nat) (W : Nat → Nat) (S : Nat → Nat → Bool) (hR : Arr w R 59 (n * d) (wv W)) (hW : WI n d W S) (hu : u < n) (hv : v < n) (hn : n ≤ 10000) (hd : d ≤ 200) (hnd : n ≤ d * 64) :
    Calls Try.prog 13 #[.slice (some ⟨R, 0, none⟩) (n * d) (n * d), .int .i64 (d : Nat), .int .i64 (u : Nat), .int .i64 (v : Nat)] w fun e w' => e = .returned (.bool (S u v)) ∧ w' = w := by
  have hv64 : v / 64 < d := by omega
  have hi : u * d + v / 64 < n * d := cell_lt hu hv64
  have hnd2 : n * d ≤ 2000000 := Nat.le_trans (Nat.mul_le_mul hn hd) (by omega)
  have c := hR.cell hi
  have HB : Hid ((bits .and .u64 ((W (u * d + v / 64) : Nat) : Int) (IntKind.u64.wrap (2 ^ (v % 64))) != 0) = S u v) := by
    show _ = _
    rw [has_bit _ _ (hW.lt _) (by omega), hW.bit u v hu hv]
  simp only [wv] at c
  clear hR hW
  go_enter Try.func13, Try.ntmps13
  go_wp2_with fail
  go_ret
  exact ⟨ret_bool HB.out, rfl⟩
end Go.Proofs.Qxb6616383a
