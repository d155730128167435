/-
  The walks of zzb1Find and zzb1Sort.
-/
import Derived.Test.Qxb6616383aLaws
import Derived.Test.Qxb6616383aMerge
namespace Go.Proofs.Qxb6616383a
open Go.RowKit
open Plain

set_option maxRecDepth 100000 in
set_option maxHeartbeats 400000 in
theorem find_any (w : World) (g n c : Nat) (f : Nat → ByteArray) (s : ByteArray) (hn : n ≤ 1000000) (hf : Arr w g 9 n (sv f)) (hr : Rises n f) :
    Calls Try.prog 9 #[.slice (some ⟨g, 0, none⟩) n c, .string s] w fun e w' => w' = w ∧ ((∃ i, i < n ∧ f i = s ∧ e = .returned (.int .i64 (i : Nat))) ∨ ((∀ i, i < n → f i ≠ s) ∧ e = .returned (.int .i64 (-1)))) := by
  have hc : Hid (∀ i, i < n → w.cell? ⟨g, i, none⟩ = some (.string (f i))) := fun i hi => hf.cell hi
  clear hf
  have hr : Hid (Rises n f) := hr
  go_enter Try.func9, Try.ntmps9
  go_wp2
  go_loop [5, 6, 7] (fun lo hi _ => ∃ a b : Nat, a ≤ b ∧ b ≤ n ∧ lo = .int .i64 a ∧ hi = .int .i64 b ∧ Hid (∀ i, i < a → ltS (f i) s = true) ∧ Hid (∀ i, b ≤ i → i < n → ltS (f i) s = false)) (fun lo hi _ => (intOf hi).toNat - (intOf lo).toNat)
  case atStart => exact ⟨0, n, by omega, by omega, rfl, rfl, fun i h => by omega, fun i h h' => by omega⟩
  case round =>
    obtain ⟨a, b, hab, hbn, rfl, rfl, h1, h2⟩ := hrel
    by_cases hlt : a < b
    · have cm := hc.out (a + (b - a) / 2) (by omega)
      cases hl : ltS (f (a + (b - a) / 2)) s with
      | true =>
        have hl' : Op.bytesLess (f (a + (b - a) / 2)).toList s.toList = true := hl
        have HL : Hid (ltS (f (a + (b - a) / 2)) s = true) := hl
        clear hl
        go_wp2
        go_round
        case rel => 
          refine ⟨a + (b - a) / 2 + 1, b, by omega, by omega, by go_num, rfl, fun i hi => ?_, h2⟩
          rcases Nat.lt_or_ge i (a + (b - a) / 2) with h | h
          · exact ltS_trans (hr.out i _ h (by omega)) HL.out
          · have : i = a + (b - a) / 2 := by omega
            rw [this]; exact HL.out
        case measure => simp [intOf]; omega
      | false =>
        have hl' : Op.bytesLess (f (a + (b - a) / 2)).toList s.toList = false := hl
        have HL : Hid (ltS (f (a + (b - a) / 2)) s = false) := hl
        clear hl
        go_wp2
        go_round
        case rel => 
          refine ⟨a, a + (b - a) / 2, by omega, by omega, by go_num, by go_num, h1, fun i hi hin => ?_⟩
          rcases Nat.lt_or_ge (a + (b - a) / 2) i with h | h
          · exact leS_trans HL.out (leS_of_lt (hr.out _ i h (by omega)))
          · have : i = a + (b - a) / 2 := by omega
            rw [this]; exact HL.out
        case measure => simp [intOf]; omega
    · obtain rfl : a = b := by omega
      by_cases han : a < n
      · have cm := hc.out a han
        by_cases e : f a = s
        · have e' : ((f a).toList == s.toList) = true := by rw [e]; simp
          have E : Hid (f a = s) := e
          clear e
          go_wp2
          go_ret
          exact ⟨rfl, Or.inl ⟨a, han, E.out, rfl⟩⟩
        · have e' : ((f a).toList == s.toList) = false := by rw [beq_eq_false_iff_ne]; exact fun h => e (toList_inj h)
          have E : Hid (f a ≠ s) := e
          clear e
          go_wp2
          go_ret
          refine ⟨rfl, Or.inr ⟨fun i hi he => ?_, rfl⟩⟩
          rcases Nat.lt_trichotomy i a with h | h | h
          · have := h1.out i h; rw [he, ltS_irrefl] at this; cases this
          · subst h; exact E.out he
          · have h3 := hr.out a i h hi
            rw [he] at h3
            have := h2.out a (Nat.le_refl a) han
            rw [this] at h3; cases h3
      · go_wp2
        go_ret
        refine ⟨rfl, Or.inr ⟨fun i hi he => ?_, rfl⟩⟩
        have := h1.out i (by omega); rw [he, ltS_irrefl] at this; cases this

set_option maxRecDepth 100000 in
set_option maxHeartbeats 4000000 in
theorem sort_any (w : World) (B g n : Nat) (f : Nat → ByteArray) (hB : B ≤ g) (hn : n ≤ 100000) (ha : Arr w g 9 n (sv f)) :
    Calls Try.prog 15 #[.slice (some ⟨g, 0, none⟩) n n] w fun e w' => ∃ S f', e = .returned (.slice (some ⟨S, 0, none⟩) n n) ∧ B ≤ S ∧ Arr w' S 9 n (sv f') ∧ Below B w w' ∧ (∀ i j, i < j → j < n → leS (f' i) (f' j)) ∧ Same 0 n f f' := by
  have HA : Hid (Arr w g 9 n (sv f)) := ha
  have hgl := ha.lt
  clear ha
  go_enter Try.func15, Try.ntmps15
  go_wp2_with (refine make_arr _ rfl _ _ 22 rfl 9 (.string ⟨#[]⟩) 16 Try.underlying22 Try.info9 rfl .i64 .i64 _ _ n rfl rfl rfl rfl (by omega) (by unfold maxLen; omega) ?_; intro w1 hA1 hN1)
  go_loopg [3, 4, 5] (n - 1) (fun q s d wd wr => ∃ (S D W : Nat) (fs fd : Nat → ByteArray), q = n - W ∧ 0 < W ∧ W ≤ 2 * n + 1 ∧ s = .slice (some ⟨S, 0, none⟩) n n ∧ d = .slice (some ⟨D, 0, none⟩) n n ∧ wd = .int .i64 W ∧ S ≠ D ∧ B ≤ S ∧ B ≤ D ∧ Hid (Arr wr S 9 n (sv fs)) ∧ Hid (Arr wr D 9 n (sv fd)) ∧ Hid (Below B w wr) ∧ Hid (Srt W n fs) ∧ Hid (Same 0 n f fs))
  case atStart => exact ⟨g, w.heap.size, 1, f, fun _ => ⟨#[]⟩, by omega, by omega, by omega, rfl, rfl, rfl, by omega, hB, by omega, HA.out.new hN1.out, hA1, hN1.out.below.mono (by omega), Srt.one _ _, Same.refl _ _ _⟩
  case round =>
    obtain ⟨S, D, W, fs, fd, rfl, hW, hW2, rfl, rfl, rfl, hSD, hBS, hBD, hAS, hAD, hBel, hSrt, hSame⟩ := hrel
    by_cases hlt : W < n
    · obtain ⟨wo, hwo⟩ : ∃ wo : World, wo = wr := ⟨_, rfl⟩
      have HWO : Hid (wo = wr) := hwo
      clear hwo
      go_wp2
      go_loopg [6] n (fun q l wr => ∃ (lo : Nat) (d : Nat → ByteArray), q = n - lo ∧ lo ≤ 3 * n ∧ l = .int .i64 lo ∧ Hid (Arr wr S 9 n (sv fs)) ∧ Hid (Arr wr D 9 n (sv d)) ∧ Hid (Below B w wr) ∧ Hid (Pass W n fs lo d))
      case atStart => exact ⟨0, fd, by omega, by omega, rfl, hAS, hAD, hBel, Pass.start _ _ _ _⟩
      case round =>
        obtain ⟨lo, d, rfl, hlo, rfl, hAS, hAD, hBel, hPass⟩ := hrel
        by_cases hll : lo < n
        · have hh := hSrt.out.halves hPass.out.mult
          have HH1 : Hid (∀ p q, lo ≤ p → p < q → q < min (lo + W) n → leS (fs p) (fs q)) := hh.1
          have HH2 : Hid (∀ p q, min (lo + W) n ≤ p → p < q → q < min (lo + 2 * W) n → leS (fs p) (fs q)) := fun p q a b c => hh.2 p q (by omega) b c
          clear hh
          go_upto_if 36 with fail
          go_cut [7] (fun m w' => m = .int .i64 (min (lo + W) n : Nat) ∧ w' = wr)
          case first =>
            by_cases h1 : n < lo + W
            · go_wp2
              go_meet
              case rel => exact ⟨by go_num, rfl⟩
            · go_wp2
              go_meet
              case rel => exact ⟨by go_num, rfl⟩
          case rest =>
            obtain ⟨rfl, rfl⟩ := hcut
            go_upto_if 46 with fail
            go_cut [8] (fun m w' => m = .int .i64 (min (lo + 2 * W) n : Nat) ∧ w' = wc)
            case first =>
              by_cases h1 : n < lo + 2 * W
              · go_wp2
                go_meet
                case rel => exact ⟨by go_num, rfl⟩
              · go_wp2
                go_meet
                case rel => exact ⟨by go_num, rfl⟩
            case rest =>
              obtain ⟨rfl, hwc⟩ := hcut
              obtain rfl := hwc
              obtain ⟨mid, hmid⟩ : ∃ mid, mid = min (lo + W) n := ⟨_, rfl⟩
              obtain ⟨hi, hhi⟩ : ∃ hi, hi = min (lo + 2 * W) n := ⟨_, rfl⟩
              rw [← hmid, ← hhi]
              have hlm : lo ≤ mid := by omega
              have hmh : mid ≤ hi := by omega
              have hhn : hi ≤ n := by omega
              have HMID : Hid (mid = min (lo + W) n) := hmid
              have HHI : Hid (hi = min (lo + 2 * W) n) := hhi
              rw [← hmid] at HH1 HH2
              rw [← hhi] at HH2
              clear hmid hhi
              go_wp2
              go_loopg [9, 10, 11] (hi - lo) (fun q i j k wr => ∃ (i' j' k' : Nat) (dd : Nat → ByteArray), q = hi - k' ∧ k' ≤ hi ∧ i' ≤ mid ∧ mid ≤ j' ∧ j' ≤ hi ∧ k' + mid = i' + j' ∧ lo ≤ i' ∧ i = .int .i64 i' ∧ j = .int .i64 j' ∧ k = .int .i64 k' ∧ Hid (Arr wr S 9 n (sv fs)) ∧ Hid (Arr wr D 9 n (sv dd)) ∧ Hid (Below B w wr) ∧ Hid (Mg lo mid hi fs i' j' k' dd) ∧ Hid (∀ p, p < lo → dd p = d p))
              case atStart => exact ⟨lo, mid, lo, d, rfl, by omega, by omega, by omega, by omega, rfl, by omega, rfl, rfl, rfl, hAS, hAD, hBel, Mg.start _ _ hlm hmh, fun p _ => rfl⟩
              case round =>
                obtain ⟨i, j, k, dd, rfl, hk, him, hmj, hjh, hkk, hli, rfl, rfl, rfl, hAS, hAD, hBel, hMg, hlow⟩ := hrel
                by_cases hkh : k < hi
                · have fD := hAD.out.free k
                  have cD := hAD.out.cell (i := k) (by omega)
                  have fin : Hid (∀ (q : Nat) (x : ByteArray), Arr ((wr.drewN q).setCell ⟨D, k, none⟩ (.string x)) D 9 n (sv (upd dd k x)) ∧ Arr ((wr.drewN q).setCell ⟨D, k, none⟩ (.string x)) S 9 n (sv fs) ∧ Below B w ((wr.drewN q).setCell ⟨D, k, none⟩ (.string x)) ∧ ∀ p, p < lo → upd dd k x p = d p) := by
                    intro q x
                    refine ⟨?_, (hAS.out.drewN q).other (by simpa using hSD) _, (below_drewN hBel.out q).setCell hBD _, fun p hp => ?_⟩
                    · have := (hAD.out.drewN q).set k (.string x)
                      rw [upd_sv] at this
                      exact this
                    · have : p ≠ k := by omega
                      simp [upd, this, hlow.out p hp]
                  by_cases hL : hi ≤ j ∨ (i < mid ∧ leS (fs i) (fs j))
                  · have him : i < mid := by omega
                    have ci := hAS.out.cell (i := i) (by omega)
                    have hM' : Hid (Mg lo mid hi fs (i + 1) j (k + 1) (upd dd k (fs i))) := hMg.out.left hkh HH1.out hL
                    rw [show sv fs i = .string (fs i) from rfl] at ci
                    by_cases hj : hi ≤ j
                    · clear hL
                      go_wp2_with (go_quiet (fail))
                      go_roundg (hi - (k + 1))
                      case measure => omega
                      case rel => exact ⟨i + 1, j, k + 1, _, rfl, by omega, by omega, by omega, by omega, by omega, by omega, by go_num, rfl, by go_num, (fin.out _ _).2.1, (fin.out _ _).1, (fin.out _ _).2.2.1, hM', (fin.out 0 _).2.2.2⟩
                    · have hle : leS (fs i) (fs j) := hL.resolve_left hj |>.2
                      have cj := hAS.out.cell (i := j) (by omega)
                      rw [show sv fs j = .string (fs j) from rfl] at cj
                      have hd : (Op.bytesLess (fs i).toList (fs j).toList || (fs i).toList == (fs j).toList) = true := by
                        rcases ltS_tri (fs i) (fs j) with h | h | h
                        · rw [show Op.bytesLess (fs i).toList (fs j).toList = true from h]; rfl
                        · rw [h]; simp
                        · rw [show ltS (fs j) (fs i) = false from hle] at h; cases h
                      clear hL hle
                      go_wp2_with (go_quiet (fail))
                      go_roundg (hi - (k + 1))
                      case measure => omega
                      case rel => exact ⟨i + 1, j, k + 1, _, rfl, by omega, by omega, by omega, by omega, by omega, by omega, by go_num, rfl, by go_num, (fin.out _ _).2.1, (fin.out _ _).1, (fin.out _ _).2.2.1, hM', (fin.out 0 _).2.2.2⟩
                  · have hj : ¬ hi ≤ j := by omega
                    have cj := hAS.out.cell (i := j) (by omega)
                    rw [show sv fs j = .string (fs j) from rfl] at cj
                    by_cases hi' : i < mid
                    · have hlt : ltS (fs j) (fs i) = true := by
                        cases h : ltS (fs j) (fs i) with
                        | true => rfl
                        | false => exact absurd (Or.inr ⟨hi', h⟩) hL
                      have ci := hAS.out.cell (i := i) (by omega)
                      rw [show sv fs i = .string (fs i) from rfl] at ci
                      have hM' : Hid (Mg lo mid hi fs i (j + 1) (k + 1) (upd dd k (fs j))) := hMg.out.right HH2.out (by omega) (Or.inr (leS_of_lt hlt))
                      have hd1 : Op.bytesLess (fs i).toList (fs j).toList = false := ltS_asymm hlt
                      have hd2 : ((fs i).toList == (fs j).toList) = false := by
                        rw [beq_eq_false_iff_ne]
                        intro h
                        rw [toList_inj h, ltS_irrefl] at hlt; cases hlt
                      clear hL hlt
                      go_wp2_with (go_quiet (fail))
                      go_roundg (hi - (k + 1))
                      case measure => omega
                      case rel => exact ⟨i, j + 1, k + 1, _, rfl, by omega, by omega, by omega, by omega, by omega, by omega, rfl, by go_num, by go_num, (fin.out _ _).2.1, (fin.out _ _).1, (fin.out _ _).2.2.1, hM', (fin.out 0 _).2.2.2⟩
                    · have hM' : Hid (Mg lo mid hi fs i (j + 1) (k + 1) (upd dd k (fs j))) := hMg.out.right HH2.out (by omega) (Or.inl (by omega))
                      clear hL
                      go_wp2_with (go_quiet (fail))
                      go_roundg (hi - (k + 1))
                      case measure => omega
                      case rel => exact ⟨i, j + 1, k + 1, _, rfl, by omega, by omega, by omega, by omega, by omega, by omega, rfl, by go_num, by go_num, (fin.out _ _).2.1, (fin.out _ _).1, (fin.out _ _).2.2.1, hM', (fin.out 0 _).2.2.2⟩
                · obtain rfl : k = hi := by omega
                  go_wp2
                  go_roundg (n - (lo + 2 * W))
                  case measure => omega
                  case rel => 
                    have hd := hMg.out.done
                    exact ⟨lo + 2 * W, dd, rfl, by omega, by go_num, hAS, hAD, hBel, hPass.out.step hW hll hlow.out (by rw [← HHI.out]; exact hd.1) (by rw [← HHI.out]; exact hd.2)⟩
        · go_wp2
          go_roundg (n - W * 2)
          case measure => omega
          case rel => 
            have hd := hPass.out.done (by omega)
            exact ⟨D, S, 2 * W, d, fs, by omega, by omega, by omega, rfl, rfl, by go_num, hSD.symm, hBD, hBS, hAD, hAS, hBel, hd.1, hSame.out.trans hd.2⟩
    · go_wp2
      go_ret
      exact ⟨S, fs, rfl, hBS, hAS.out, hBel.out, hSrt.out.all (by omega), hSame.out⟩
end Go.Proofs.Qxb6616383a
