/-
  The walk of zzb1Names.
-/
import Derived.Test.Qxb6616383aSort
import Derived.Test.Qxb6616383aAppend
namespace Go.Proofs.Qxb6616383a
open Go.RowKit
open Plain
/-- The table of the texts of two rows, each once, rising. -/
structure Names (la lb : Nat) (fa fb : Nat → ByteArray) (n : Nat) (f : Nat → ByteArray) : Prop where
  rises : Rises n f
  le : n ≤ la + lb
  from_ : ∀ i, i < n → (∃ k, k < la ∧ f i = fa k) ∨ (∃ k, k < lb ∧ f i = fb k)
  toa : ∀ k, k < la → ∃ i, i < n ∧ f i = fa k
  tob : ∀ k, k < lb → ∃ i, i < n ∧ f i = fb k
theorem Names.of {la lb n : Nat} {fa fb fs f : Nat → ByteArray} (hs : Same 0 (la + lb) (fun i => if i < la then fa i else fb (i - la)) fs) (hu : Uniq fs (la + lb) n f) : Names la lb fa fb n f := by
  refine ⟨hu.rises, hu.le, fun i hi => ?_, fun k hk => ?_, fun k hk => ?_⟩
  · obtain ⟨q, q1, q2⟩ := hu.from_ i hi
    obtain ⟨j, _, j2, e⟩ := hs.1 q (by omega) q1
    rw [q2, e]
    by_cases hj : j < la
    · exact Or.inl ⟨j, hj, if_pos hj⟩
    · exact Or.inr ⟨j - la, by omega, if_neg hj⟩
  · obtain ⟨q, _, q2, e⟩ := hs.2 k (by omega) (by omega)
    obtain ⟨p, p1, p2⟩ := hu.to_ q q2
    exact ⟨p, p1, by rw [p2, e]; exact if_pos hk⟩
  · obtain ⟨q, _, q2, e⟩ := hs.2 (la + k) (by omega) (by omega)
    obtain ⟨p, p1, p2⟩ := hu.to_ q q2
    refine ⟨p, p1, ?_⟩
    rw [p2, e]
    have : ¬ la + k < la := by omega
    simp only [if_neg this]
    rw [Nat.add_sub_cancel_left]
set_option maxRecDepth 100000 in
set_option maxHeartbeats 4000000 in
theorem names_any (w : World) (aa ab : Option Addr) (la ca lb cb : Nat) (fa fb : Nat → ByteArray) (ha : SArg w aa la ca (sv fa)) (hb : SArg w ab lb cb (sv fb)) (hla : la ≤ 4096) (hlb : lb ≤ 4096) :
    Calls Try.prog 11 #[.slice aa la ca, .slice ab lb cb] w fun e w' => ∃ g n c f, e = .returned (.slice (some ⟨g, 0, none⟩) n c) ∧ w.heap.size ≤ g ∧ Row w' g 9 n (sv f) ∧ Below w.heap.size w w' ∧ Names la lb fa fb n f := by
  have HA : Hid (SArg w aa la ca (sv fa)) := ha
  have HB : Hid (SArg w ab lb cb (sv fb)) := hb
  clear ha hb
  go_enter Try.func11, Try.ntmps11
  go_wp2_with (first
    | (refine make_own w rfl _ _ 22 rfl 9 (.string ⟨#[]⟩) 16 Try.underlying22 Try.info9 .i64 .i64 _ (la + lb) rfl rfl (by omega) (by omega) (by unfold maxLen; omega) ?_; intro w1 hO1 hN1)
    | (refine app_all _ rfl (.tmp 15) _ 22 rfl w.heap.size 9 (.string ⟨#[]⟩) 16 Try.underlying22 Try.info9 w.heap.size 0 (la + lb) (sv fa) rfl hO1.out aa la ca (sv fa) rfl (HA.out.kept hN1.out.below) (fun i => rfl) (by omega) ?_; intro w2 hO2 hG2
       have hB2 : Hid (Below w.heap.size w w2) := hN1.out.below.grown hG2.out (Nat.le_of_lt hN1.out.lt) (fun k hk => by cases hk; omega)
       have hO2' : Hid (Own w2 w.heap.size 9 (.slice (some ⟨w.heap.size, 0, none⟩) la (la + lb)) la (sv fa)) := by
         have := hO2.out
         simp only [Nat.zero_add] at this
         exact this.congr (fun i hi => by simp [sv]))
    | (refine app_all _ rfl (.tmp 18) _ 22 rfl w.heap.size 9 (.string ⟨#[]⟩) 16 Try.underlying22 Try.info9 w.heap.size la (la + lb) (sv fa) rfl hO2'.out ab lb cb (sv fb) rfl (HB.out.kept hB2.out) (fun i => rfl) (by omega) ?_; intro w3 hO3 hG3
       have hB3 : Hid (Below w.heap.size w w3) := hB2.out.grown hG3.out hB2.out.size (fun k hk => by cases hk; omega)
       have hA3 : Hid (Arr w3 w.heap.size 9 (la + lb) (sv fun i => if i < la then fa i else fb (i - la))) := hO3.out.arr.congr (fun i hi => by simp only [sv]; split <;> rfl))
    | (go_at_call 15
       refine (sort_any w3 w.heap.size w.heap.size (la + lb) _ (Nat.le_refl _) (by omega) hA3.out).mono ?_
       rintro e w4 ⟨S, fs, rfl, hS, hA4, hB4, hsrt, hsame⟩
       have HA4 : Hid (Arr w4 S 9 (la + lb) (sv fs)) := hA4
       have HB4 : Hid (Below w.heap.size w w4) := hB3.out.trans hB4
       have HSR : Hid (∀ i j, i < j → j < la + lb → leS (fs i) (fs j)) := hsrt
       have HSA : Hid (Same 0 (la + lb) (fun i => if i < la then fa i else fb (i - la)) fs) := hsame
       clear hA4 hB4 hsrt hsame)
    | (refine make_own w4 rfl _ _ 22 rfl 9 (.string ⟨#[]⟩) 16 Try.underlying22 Try.info9 .i64 .i64 _ (la + lb) rfl rfl (by omega) (by omega) (by unfold maxLen; omega) ?_; intro w5 hO5 hN5))
  have hszle : w.heap.size ≤ w4.heap.size := HB4.out.size
  obtain ⟨N, hNe⟩ : ∃ N, N = la + lb := ⟨_, rfl⟩
  have HN : Hid (N = la + lb) := hNe
  obtain ⟨G, hGe⟩ : ∃ G, G = w4.heap.size := ⟨_, rfl⟩
  have hSG : S < G := by rw [hGe]; exact HA4.out.lt
  have HA5 : Hid (Arr w5 S 9 N (sv fs)) := by rw [hNe]; exact HA4.out.new hN5.out
  have HB5 : Hid (Below w.heap.size w w5) := HB4.out.trans (hN5.out.below.mono hszle)
  have hN2 : N ≤ 8192 := by omega
  rw [← hGe] at hO5 hszle
  rw [← hNe] at hO5 HSR HSA
  rw [← hNe, ← hGe]
  clear hNe hGe HA4 HB4 hN5 hA3 hB3 hG3 hO3 hO2 hO2' hG2 hB2 hO1 hN1 HA HB
  go_loopg [7, 8] N (fun q nm i wr => ∃ (k m : Nat) (d : Nat → ByteArray), q = N - k ∧ k ≤ N ∧ m ≤ k ∧ nm = .slice (some ⟨G, 0, none⟩) m N ∧ i = .int .i64 k ∧ Hid (Own wr G 9 (.slice (some ⟨G, 0, none⟩) m N) m (sv d)) ∧ Hid (Arr wr S 9 N (sv fs)) ∧ Hid (Below w.heap.size w wr) ∧ Hid (Uniq fs k m d))
  case atStart => exact ⟨0, 0, fs, by omega, by omega, by omega, rfl, rfl, hO5, HA5, HB5, Uniq.start _ _⟩
  case round =>
    obtain ⟨k, m, d, rfl, hk, hmk, rfl, rfl, hO, hA, hB, hU⟩ := hrel
    by_cases hlt : k < N
    · have ck := hA.out.cell (i := k) hlt
      rw [show sv fs k = .string (fs k) from rfl] at ck
      by_cases h0 : k = 0
      · have HNE : Hid (k = 0 ∨ fs k ≠ fs (k - 1)) := Or.inl h0
        have e0 : ((k : Int) == 0) = true := by rw [beq_iff_eq]; omega
        clear h0
        go_wp2_with (first
          | go_quiet (fail)
          | (refine app_fit _ rfl _ _ 22 rfl G 9 (.string ⟨#[]⟩) 16 Try.underlying22 Try.info9 G m N (sv d) rfl (Own.alloc (show Own (wr.drewN _) G 9 _ m (sv d) from hO.out) _) _ 1 (.string (fs k)) rfl (cell_new _ _ _) rfl (by omega) ?_; intro w6 hO6 hG6))
        go_roundg (N - (k + 1))
        case measure => omega
        case rel =>
          refine ⟨k + 1, m + 1, upd d m (fs k), rfl, by omega, by omega, rfl, by go_num, ?_, ?_, ?_, ?_⟩
          · have := hO6.out
            rw [upd_sv] at this
            exact this
          · exact ((hA.out.drewN _).alloc _).grown hG6.out (by simp; omega)
          · exact ((below_drewN hB.out _).alloc hB.out.size _).grown hG6.out (by simp; have := hB.out.size; omega) (fun k hk => by cases hk; exact hszle)
          · exact hU.out.add HSR.out hlt HNE.out (fun p hp => by simp [upd, show p ≠ m by omega]) (by simp [upd])
      · have e0 : ((k : Int) == 0) = false := by rw [beq_eq_false_iff_ne]; omega
        have ck' := hA.out.cell (i := k - 1) (by omega)
        rw [show sv fs (k - 1) = .string (fs (k - 1)) from rfl] at ck'
        by_cases he : fs k = fs (k - 1)
        · have HE : Hid (fs k = fs (k - 1)) := he
          have he' : ((fs k).toList == (fs (k - 1)).toList) = true := by rw [he]; simp
          clear he
          go_wp2_with (go_quiet (fail))
          go_roundg (N - (k + 1))
          case measure => omega
          case rel =>
            refine ⟨k + 1, m, d, rfl, by omega, by omega, rfl, by go_num, hO, hA, below_drewN hB.out _, ?_⟩
            obtain ⟨j, rfl⟩ : ∃ j, k = j + 1 := ⟨k - 1, by omega⟩
            exact hU.out.skip HE.out
        · have HNE : Hid (k = 0 ∨ fs k ≠ fs (k - 1)) := Or.inr he
          have he' : ((fs k).toList == (fs (k - 1)).toList) = false := by rw [beq_eq_false_iff_ne]; exact fun h => he (toList_inj h)
          clear he
          go_wp2_with (first
            | go_quiet (fail)
            | (refine app_fit _ rfl _ _ 22 rfl G 9 (.string ⟨#[]⟩) 16 Try.underlying22 Try.info9 G m N (sv d) rfl (Own.alloc (show Own (wr.drewN _) G 9 _ m (sv d) from hO.out) _) _ 1 (.string (fs k)) rfl (cell_new _ _ _) rfl (by omega) ?_; intro w6 hO6 hG6))
          go_roundg (N - (k + 1))
          case measure => omega
          case rel =>
            refine ⟨k + 1, m + 1, upd d m (fs k), rfl, by omega, by omega, rfl, by go_num, ?_, ?_, ?_, ?_⟩
            · have := hO6.out
              rw [upd_sv] at this
              exact this
            · exact ((hA.out.drewN _).alloc _).grown hG6.out (by simp; omega)
            · exact ((below_drewN hB.out _).alloc hB.out.size _).grown hG6.out (by simp; have := hB.out.size; omega) (fun k hk => by cases hk; exact hszle)
            · exact hU.out.add HSR.out hlt HNE.out (fun p hp => by simp [upd, show p ≠ m by omega]) (by simp [upd])
    · obtain rfl : k = N := by omega
      go_wp2
      go_ret
      refine ⟨G, m, k, d, rfl, hszle, hO.out.row, hB.out, ?_⟩
      have h1 := HSA.out
      have h2 := hU.out
      rw [HN.out] at h1 h2
      exact Names.of h1 h2
end Go.Proofs.Qxb6616383a
