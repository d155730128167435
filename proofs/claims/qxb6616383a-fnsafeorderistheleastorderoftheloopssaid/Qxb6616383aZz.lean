/-
  The walk of ZZinSafeOrder.
-/
import Derived.Test.Qxb6616383aBuilt
import Derived.Test.Qxb6616383aSafe
namespace Go.Proofs.Qxb6616383a
open Go.RowKit
open Plain
def zeroG (EB m : Nat) : Nat → Value := fun i => #[Value.slice (some ⟨EB, 0, none⟩) m m, .int .u32 0, .int .i32 0, .int .u32 0, .slice none 0 0, .map none, .slice none 0 0, .slice none 0 0, .slice none 0 0, .slice none 0 0, .int .u32 0, .int .i32 0, .int .u32 0, .map none].getD i (.bool false)
theorem Arr.newG (w : World) (EB m : Nat) : Arr (w.alloc (.cells #[Value.slice (some ⟨EB, 0, none⟩) m m, .int .u32 0, .int .i32 0, .int .u32 0, .slice none 0 0, .map none, .slice none 0 0, .slice none 0 0, .slice none 0 0, .slice none 0 0, .int .u32 0, .int .i32 0, .int .u32 0, .map none] 56)) w.heap.size 56 14 (zeroG EB m) := by
  unfold Arr
  rw [heap_alloc_last]; rfl
set_option maxRecDepth 100000 in
set_option maxHeartbeats 4000000 in
theorem zz_any (h33 : Finds) (w : World) (EB m : Nat) (dep dpt : Nat → ByteArray) (hE : Arr w EB 31 (m * 2) (ev dep dpt)) (hm : m ≤ 20000) (hs : ∀ k, k < m → (dep k).size ≤ maxLen ∧ (dpt k).size ≤ maxLen) (ao : Option Addr) (kl kc : Nat) (kp : Nat → Bool) (hk : kl = 0 ∨ ∃ KB, ao = some ⟨KB, 0, none⟩ ∧ Arr w KB 4 kl (bv kp)) (hnk : ∀ n N D, Made m dep dpt n N D → n ≤ kl) :
    Calls Try.prog 8 #[.slice (some ⟨EB, 0, none⟩) m m, .slice ao kl kc] w fun e w' => ∃ n G N D grp rv, e = .returned rv ∧ Made m dep dpt n N D ∧ Gr n D grp G ∧ (∀ u x, x ∈ D u → x < n) ∧ n ≤ 100000 ∧ Out w' w.heap.size rv N (memb grp n) (order D grp kp n G) none ∧ Below w.heap.size w w' := by
  have HE : Hid (Arr w EB 31 (m * 2) (ev dep dpt)) := hE
  have HK : Hid (kl = 0 ∨ ∃ KB, ao = some ⟨KB, 0, none⟩ ∧ Arr w KB 4 kl (bv kp)) := hk
  clear hE hk
  go_enter Try.func8, Try.ntmps8
  go_upto_region 2 with fail
  obtain ⟨w1, hw1⟩ : ∃ w1 : World, w1 = w.alloc (.cells #[Value.slice (some ⟨EB, 0, none⟩) m m, .int .u32 0, .int .i32 0, .int .u32 0, .slice none 0 0, .map none, .slice none 0 0, .slice none 0 0, .slice none 0 0, .slice none 0 0, .int .u32 0, .int .i32 0, .int .u32 0, .map none] 56) := ⟨_, rfl⟩
  rw [← hw1]
  obtain ⟨b, hb⟩ : ∃ b, b = w.heap.size := ⟨_, rfl⟩
  rw [← hb]
  have G1 : Arr w1 b 56 14 (zeroG EB m) := by rw [hw1, hb]; exact Arr.newG w EB m
  have hEb : EB < b := by rw [hb]; exact HE.out.lt
  have E1 : Arr w1 EB 31 (m * 2) (ev dep dpt) := by rw [hw1]; exact HE.out.alloc _
  have O1 : Hid (Below w.heap.size w w1) := by rw [hw1]; exact (Only.alloc w _ (fun _ => False)).below (Nat.le_refl _) (fun _ _ => id)
  have K1 : kl = 0 ∨ ∃ KB, ao = some ⟨KB, 0, none⟩ ∧ KB ≠ b ∧ Arr w1 KB 4 kl (bv kp) := by
    rcases HK.out with h | ⟨KB, e, hA⟩
    · exact Or.inl h
    · have := hA.lt
      exact Or.inr ⟨KB, e, by omega, by rw [hw1]; exact hA.alloc _⟩
  have h16 : Calls Try.prog 16 #[.pointer (some ⟨b, 0, none⟩)] w1 fun e w2 => e = .returned (.pointer (some ⟨b, 0, none⟩)) ∧ ∃ K F n G N D grp NB LD AD GB LM AM, Tables w2 K b F n G N D grp NB LD AD GB LM AM ∧ Made m dep dpt n N D ∧ Gr n D grp G ∧ n ≤ kl ∧ n ≤ 100000 ∧ (∀ u, (D u).length ≤ 100000) ∧ (∀ u x, x ∈ D u → x < n) ∧ Only (fun k => k = b) w1 w2 ∧ K ≤ w2.heap.size := by
    refine (built_any h33 w1 b EB m (zeroG EB m) dep dpt G1 rfl rfl rfl E1 hm hs (by omega)).mono ?_
    rintro e w2 ⟨rfl, K, F, n, G, N, D, grp, NB, LD, AD, GB, LM, AM, a1, a2, a3, a4, a5, a6⟩
    have hD : ∃ x y : Nat → Nat, D = nbr n x y m := by obtain ⟨_, _, x, y, _, e⟩ := a2; exact ⟨x, y, e⟩
    obtain ⟨x, y, eD⟩ := hD
    refine ⟨rfl, K, F, n, G, N, D, grp, NB, LD, AD, GB, LM, AM, a1, a2, a3, hnk n N D a2, a4, fun u => ?_, fun u x hx => ?_, a5, a6⟩
    · have h1 : (D u).length ≤ n := by
        rw [eD]
        unfold nbr sel
        refine Nat.le_trans (List.length_filter_le _ _) ?_
        simp
      omega
    · rw [eD] at hx; exact (mem_sel.1 hx).1
  have HS : Hid (Calls Try.prog 14 #[.pointer (some ⟨b, 0, none⟩), .slice ao kl kc] w1 fun e w' => ∃ n G N D grp rv, e = .returned rv ∧ Made m dep dpt n N D ∧ Gr n D grp G ∧ (∀ u x, x ∈ D u → x < n) ∧ n ≤ 100000 ∧ Out w' w1.heap.size rv N (memb grp n) (order D grp kp n G) none ∧ Only (fun k => k = b) w1 w') := safe_any w1 b ao kl kc kp (fun n _ N D _ => Made m dep dpt n N D) K1 h16
  have HSZ : Hid (w.heap.size ≤ w1.heap.size ∧ b = w.heap.size) := ⟨O1.out.size, hb⟩
  clear hw1 hb G1 E1 K1 h16 hnk hs
  go_wp2_with (
    go_at_call 14
    refine HS.out.mono ?_
    rintro e w3 ⟨n, G, N, D, grp, rv, rfl, a1, a2, a3, a4, a5, a6⟩
    have J : Hid (Made m dep dpt n N D ∧ Gr n D grp G ∧ (∀ u x, x ∈ D u → x < n) ∧ n ≤ 100000 ∧ Out w3 w1.heap.size rv N (memb grp n) (order D grp kp n G) none ∧ Only (fun k => k = b) w1 w3) := ⟨a1, a2, a3, a4, a5, a6⟩
    clear a1 a2 a3 a4 a5 a6)
  go_ret
  obtain ⟨a1, a2, a3, a4, a5, a6⟩ := J.out
  have hz := HSZ.out
  exact ⟨n, G, N, D, grp, rv, rfl, a1, a2, a3, a4, a5.mono hz.1, O1.out.trans (a6.below hz.1 (fun k hk e => by omega))⟩
end Go.Proofs.Qxb6616383a
